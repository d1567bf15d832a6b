import JvmDerived
import JvmDerived.Pilot.@@N@@Statement
import JvmDerived.Pilot.@@N@@Code
set_option linter.unusedVariables false
set_option linter.unusedSimpArgs false
namespace Jvm.RoadKit
open Sem ClassFile Op Lib Jvm.Stand Jvm.Free Jvm.LawKit
section New
variable {p : Program} {l : Launch} {e : Env} {R : Room} {s : State} {m : MethodId} {args : Array Value} {below : List Frame} {meth : Method} {c : Code} {T : State} {locs : List Loc} {cells slots : Nat}
theorem retI (X : Stand p l e R s m args below meth c T locs cells slots) (hx : p.tables.exec = Jvm.exec) {pc : Nat} {Ls : Array Slot} {z : Int32} {rest : List Value} (hret : meth.sig.returnType = some .int) (hd : decode c.code pc = .ok (.ireturn, 1)) {fs : List Frame}
    (hl : ∀ (f : JFrame) (acts : List Action), f.method = m → f.locked = none → f.entered = [] → (doReturn e (T.setTop f) acts (some (.int z))).1 = T.setFrames fs) : Steps p.tables e below (T.setTop (mkF m pc Ls (.int z :: rest))) (T.setFrames fs) := by
  have hm' : T.vm.method? m = some meth := X.method'
  have hn : narrow .int (.int z) = .int z := rfl
  show Steps p.tables e below (T.setTop { method := m, pc := pc, locals := Ls, stack := _ :: rest, locked := none }) _
  jvm_step X.here [X.here.top, hx, hd, hm', hret, hn]
  first | (intro acts; rw [hl _ acts rfl rfl rfl]) | rw [hl _ _ rfl rfl rfl]
  exact Steps.refl _
end New
end Jvm.RoadKit
namespace Jvm.Pilot.@@N@@
open Jvm Jvm.ClassFile Sem Op Lib Jvm.Free Jvm.Stand Jvm.LawKit Jvm.RoadKit Bundle Jvm.Pilot.@@N@@.Jvm.D
/-- an array of n components, the i-th holding f i -/
def own_Ar (Z : State) (h : Heap) (a : Addr) (ty : FieldType) (n : Nat) (f : Nat → Value) : Prop :=
  ∃ c : Cell, Arr Z h a c ty ∧ c.slots.size = n ∧ n < 2147483648 ∧ (∀ i, i < n → c.slots[i]? = some (f i)) ∧ ∀ i, i < n → fits ty (f i) = true
theorem own_nat {j : Int32} (q : 0 ≤ j.toInt) : (j.toNatClampNeg : Int) = j.toInt := by
  simp only [Int32.toNatClampNeg]; omega
theorem own_lt0 {j : Int32} (q : 0 ≤ j.toInt) : ¬ j < 0 := by
  rw [Int32.lt_iff_toInt_lt]; have : (0 : Int32).toInt = 0 := rfl; omega
theorem own_ge0 {j : Int32} (q : ¬ j < 0) : 0 ≤ j.toInt := by
  rw [Int32.lt_iff_toInt_lt] at q; have : (0 : Int32).toInt = 0 := rfl; omega
theorem own_Ar.lt {Z : State} {h : Heap} {a : Addr} {ty : FieldType} {n : Nat} {f : Nat → Value} (F : own_Ar Z h a ty n f) : a < h.size := by obtain ⟨c, A, -⟩ := F; exact A.lt
theorem own_Ar.ext {Z : State} {h h' : Heap} {a : Addr} {ty : FieldType} {n : Nat} {f : Nat → Value} (F : own_Ar Z h a ty n f) (E : Ext h h') : own_Ar Z h' a ty n f := by obtain ⟨c, A, r⟩ := F; exact ⟨c, A.ext E, r⟩
theorem own_Ar.other {Z : State} {h h' : Heap} {a b : Addr} {sl : Nat} {v : Value} {ty : FieldType} {n : Nat} {f : Nat → Value} (F : own_Ar Z h b ty n f) (W : Wr h h' a sl v) (q : b ≠ a) : own_Ar Z h' b ty n f := by obtain ⟨c, A, r⟩ := F; exact ⟨c, A.other W q, r⟩
theorem own_Ar.keep {Z : State} {h h' : Heap} {a : Addr} {ws : List Addr} {ty : FieldType} {n : Nat} {f : Nat → Value} (F : own_Ar Z h a ty n f) (K : Keep h h' ws) (q : a ∉ ws) : own_Ar Z h' a ty n f := by obtain ⟨c, A, r⟩ := F; exact ⟨c, ⟨K.2.1 a c A.1 q, A.2⟩, r⟩
theorem own_Ar.eq {Z : State} {h : Heap} {a : Addr} {ty : FieldType} {n : Nat} {f g : Nat → Value} (F : own_Ar Z h a ty n f) (q : ∀ i, i < n → f i = g i) : own_Ar Z h a ty n g := by
  obtain ⟨c, A, r1, r2, r3, r4⟩ := F
  exact ⟨c, A, r1, r2, fun i hi => by rw [← q i hi]; exact r3 i hi, fun i hi => by rw [← q i hi]; exact r4 i hi⟩
theorem own_Ar.size {Z : State} {h : Heap} {a : Addr} {ty : FieldType} {n m : Nat} {f : Nat → Value} (F : own_Ar Z h a ty n f) (q : n = m) : own_Ar Z h a ty m f := q ▸ F
theorem own_fits_default (ty : FieldType) : fits ty (defaultValue ty) = true := by cases ty <;> rfl
/-- a new array -/
theorem own_Ar.new {Z : State} {h : Heap} {a : Addr} {k : ClassId} {ty : FieldType} {z : Int32} {n : Nat} (A : Arr Z h a (newA k ty z) ty) (q : z.toInt = n) : own_Ar Z h a ty n (fun _ => defaultValue ty) := by
  have e : z.toNatClampNeg = n := by have := own_nat (j := z) (by omega); omega
  obtain ⟨c, A', q1, S, q3, H, G⟩ := Arv.new A (own_lt0 (by omega))
  have r := z.toInt_lt
  refine ⟨c, A', S.trans e, by omega, fun i hi => by rw [H i (by omega)]; rfl, fun i hi => own_fits_default ty⟩
/-- a component read -/
theorem own_Ar.at {Z : State} {h : Heap} {a : Addr} {ty : FieldType} {n : Nat} {f : Nat → Value} (F : own_Ar Z h a ty n f) {j : Int32} {i : Nat} (hj : j.toInt = i) (hi : i < n) :
    ∃ c : Cell, Arr Z h a c ty ∧ ¬ (j < 0 ∨ c.slots.size ≤ j.toNatClampNeg) ∧ c.slots[j.toNatClampNeg]? = some (f i) := by
  obtain ⟨c, A, r1, r2, r3, r4⟩ := F
  have e : j.toNatClampNeg = i := by have := own_nat (j := j) (by omega); omega
  refine ⟨c, A, fun q => q.elim (own_lt0 (by omega)) (fun u => by omega), by rw [e]; exact r3 i hi⟩
/-- its length -/
theorem own_Ar.len {Z : State} {h : Heap} {a : Addr} {ty : FieldType} {n : Nat} {f : Nat → Value} (F : own_Ar Z h a ty n f) : ∃ c : Cell, Arr Z h a c ty ∧ c.slots.size.toInt32 = Int32.ofNat n ∧ n < 2147483648 := by
  obtain ⟨c, A, r1, r2, r3, r4⟩ := F
  exact ⟨c, A, by rw [r1], r2⟩
theorem own_ofNat {n : Nat} (h : n < 2147483648) : (Int32.ofNat n).toInt = n := Int32.toInt_ofNat_of_lt (by omega)
/-- a component written -/
theorem own_Ar.set {Z : State} {h h' : Heap} {a : Addr} {ty : FieldType} {n : Nat} {f : Nat → Value} {v : Value} (F : own_Ar Z h a ty n f) {j : Int32} {i : Nat} (hj : j.toInt = i) (W : Wr h h' a j.toNatClampNeg v) (hv : fits ty v = true) :
    own_Ar Z h' a ty n (fun k => if k = i then v else f k) := by
  obtain ⟨c, A, r1, r2, r3, r4⟩ := F
  have e : j.toNatClampNeg = i := by have := own_nat (j := j) (by omega); omega
  obtain ⟨c', q1, q2, q3, q4, q5, q6, q7⟩ := wr_at W A.1
  obtain ⟨q8, q9, q10⟩ := q7 rfl
  have A' := A.same W
  rw [← q8] at A'
  refine ⟨c', A', q4.trans r1, r2, fun k hk => ?_, fun k hk => ?_⟩ <;> dsimp only
  · by_cases u : k = i
    · subst u; rw [if_pos rfl, ← e]; exact q9
    · rw [if_neg u, q6 k (by omega)]; exact r3 k hk
  · by_cases u : k = i
    · rw [if_pos u]; exact hv
    · rw [if_neg u]; exact r4 k hk
theorem own_ins {j : Int32} {n i : Nat} {c : Cell} (r1 : c.slots.size = n) (hj : j.toInt = i) (hi : i < n) : ¬ (j < 0 ∨ c.slots.size ≤ j.toNatClampNeg) := by
  have e : j.toNatClampNeg = i := by have := own_nat (j := j) (by omega); omega
  exact fun q => q.elim (own_lt0 (by omega)) (fun u => by omega)
theorem own_clone {p : Program} {l : Launch} {e : Env} {R : Room} {s : State} {m : MethodId} {args : Array Value} {below : List Frame} {meth : Method} {c : Code} {T : State} {locs : List Loc} {cells slots : Nat} {Z : State} {h : Heap} {a : Addr}
    (X : Stand p l e R s m args below meth c T locs cells slots) (hx : p.tables.exec = Jvm.exec) (hZ : Z.Warmed39 s.vm) {a0 : Array Value} {own ad : String} {index : Nat} (hown : s.vm.findClass own = some m.cls)
    (w1 : (Cond.methodLink own index ⟨ad, "clone", "()Ljava/lang/Object;"⟩).before a0 Z = true) (w2 : (Cond.sameMethod ad "java/lang/Object" "clone" "()Ljava/lang/Object;").before a0 Z = true) (w3 : (Cond.native ⟨"java/lang/Object", "clone", "()Ljava/lang/Object;"⟩).before a0 Z = true)
    (w4 : (Cond.instanceMethod ⟨"java/lang/Object", "clone", "()Ljava/lang/Object;"⟩).before a0 Z = true) (w5 : (Cond.selects ad ⟨ad, "clone", "()Ljava/lang/Object;"⟩ ⟨"java/lang/Object", "clone", "()Ljava/lang/Object;"⟩).before a0 Z = true) (w6 : (Cond.castable ad "java/lang/Cloneable").before a0 Z = true)
    (eT : T.heap = h) {ty : FieldType} {n : Nat} {f : Nat → Value} (A : own_Ar Z h a ty n f) (E : Exa Z h a ad) {g : JFrame} (hg : g.method = m) (hsize : g.locals.size = c.maxLocals) {rest : List Value} (hs : g.stack = .ref a :: rest) (hd : decode c.code g.pc = .ok (.invokevirtual index, 3))
    (hf : 1 ≤ R.frames) {W cap : Nat} (hW : 2 * g.monitorRoom + (rest.map fun v => v.category).sum ≤ W) (hl : W + 14 ≤ R.locals) (hcap : n ≤ cap) (hc : cells + 1 ≤ R.cells) (hsl : slots + cap ≤ R.slots) :
    ∃ T' h', Stand p l e R s m args below meth c T' locs (cells + 1) (slots + cap) ∧ T'.heap = h' ∧ Ext h h' ∧ own_Ar Z h' h.size ty n f ∧ Exa Z h' h.size ad ∧
      ∀ target, Steps p.tables e below (T'.setTop { g with pc := g.pc + 3, stack := .ref h.size :: rest }) target → Steps p.tables e below (T.setTop g) target := by
  obtain ⟨cl, A1, r1, r2, r3, r4⟩ := A
  have FC : FitC Z cl := fitC_of A1 fun i hi v hv => by rw [r3 i (by omega)] at hv; cases hv; exact r4 i (by omega)
  obtain ⟨T', h', X', e', ex, A', E', st⟩ := cloneA X hx hZ hown w1 w2 w3 w4 w5 w6 eT A1 E FC hg hsize hs hd hf hW hl (by rw [r1]; exact hcap) hc hsl
  exact ⟨T', h', X', e', ex, ⟨cloneOf cl, A', r1, r2, r3, r4⟩, E', st⟩
/-- where the run of X's method stands, with other cells and slots made and other places written -/
abbrev own_StX {p : Program} {l : Launch} {e : Env} {R : Room} {s : State} {m : MethodId} {args : Array Value} {below : List Frame} {meth : Method} {c : Code} {T : State} {locs : List Loc} {cells slots : Nat} (X : Stand p l e R s m args below meth c T locs cells slots) (T' : State) (locs' : List Loc) (cells' slots' : Nat) : Prop := Stand p l e R s m args below meth c T' locs' cells' slots'
abbrev own_StT {p : Program} {l : Launch} {e : Env} {R : Room} {s : State} {m : MethodId} {args : Array Value} {below : List Frame} {meth : Method} {c : Code} {T : State} {locs : List Loc} {cells slots : Nat} (X : Stand p l e R s m args below meth c T locs cells slots) (T' : State) : Prop := Stand p l e R s m args below meth c T' locs cells slots
def own_max (p1 p2 : Int32) : Int32 := if p1 < p2 then p2 else p1
theorem own_max_t {p1 p2 : Int32} (h : p1 < p2) : own_max p1 p2 = p2 := if_pos h
theorem own_max_f {p1 p2 : Int32} (h : ¬ p1 < p2) : own_max p1 p2 = p1 := if_neg h
def own_min (p1 p2 : Int32) : Int32 := if p2 < p1 then p2 else p1
theorem own_min_t {p1 p2 : Int32} (h : p2 < p1) : own_min p1 p2 = p2 := if_pos h
theorem own_min_f {p1 p2 : Int32} (h : ¬ p2 < p1) : own_min p1 p2 = p1 := if_neg h
def own_maxL (p1 p2 : Int64) : Int64 := if p1 < p2 then p2 else p1
theorem own_maxL_t {p1 p2 : Int64} (h : p1 < p2) : own_maxL p1 p2 = p2 := if_pos h
theorem own_maxL_f {p1 p2 : Int64} (h : ¬ p1 < p2) : own_maxL p1 p2 = p1 := if_neg h
def own_minL (p1 p2 : Int64) : Int64 := if p2 < p1 then p2 else p1
theorem own_minL_t {p1 p2 : Int64} (h : p2 < p1) : own_minL p1 p2 = p2 := if_pos h
theorem own_minL_f {p1 p2 : Int64} (h : ¬ p2 < p1) : own_minL p1 p2 = p1 := if_neg h
theorem own_lt_of {p q : Int32} (h : p.toInt < q.toInt) : p < q := Int32.lt_iff_toInt_lt.mpr h
theorem own_nlt_of {p q : Int32} (h : q.toInt ≤ p.toInt) : ¬ p < q := fun u => by rw [Int32.lt_iff_toInt_lt] at u; omega
theorem own_ltL_of {p q : Int64} (h : p.toInt < q.toInt) : p < q := Int64.lt_iff_toInt_lt.mpr h
theorem own_nltL_of {p q : Int64} (h : q.toInt ≤ p.toInt) : ¬ p < q := fun u => by rw [Int64.lt_iff_toInt_lt] at u; omega
theorem own_ne_of {p q : Int32} (h : p.toInt ≠ q.toInt) : ¬ p = q := fun u => h (by rw [u])
theorem own_eq_of {p q : Int32} (h : p.toInt = q.toInt) : p = q := Int32.toInt_inj.mp h
theorem own_inc {i : Int32} {j n : Nat} (h : i.toInt = j) (q : j < n) (r : n < 2147483648) : (i + 1).toInt = (j + 1 : Nat) := by
  have a := c_iadd i 1
  have b := rng32 (i + 1)
  have z : (1 : Int32).toInt = 1 := rfl
  omega
def own_z (x : Int32) : Int32 := if x = 0 then 1 else 0
theorem own_z_0 {x : Int32} (h : x = 0) : own_z x = 1 := if_pos h
theorem own_z_1 {x : Int32} (h : ¬ x = 0) : own_z x = 0 := if_neg h
theorem own_Sta_keep {Z : State} {h h' : Heap} {C n d : String} {v : Value} (S : Sta Z h C n d v) (K : Keep h h' []) : Sta Z h' C n d v := by
  obtain ⟨cf, i, k, f, st, cell, h1, h2, h3, h4, h5, r⟩ := S
  exact ⟨cf, i, k, f, st, cell, h1, h2, h3, h4, K.2.1 _ _ h5 nin0, r⟩
theorem own_b2 (x : Int32) : nar .byte (x.toInt8.toInt32) = x.toInt8.toInt32 := by
  show (x.toInt8.toInt32).toInt8.toInt32 = _
  rw [Int8.toInt8_toInt32]
theorem own_len4 (p : Int32) : (((p.toUInt32 >>> ((1 : Int32) &&& 31).toUInt32).toInt32) &&& (3 : Int32)) = 0 ∨ (((p.toUInt32 >>> ((1 : Int32) &&& 31).toUInt32).toInt32) &&& (3 : Int32)) = 1 ∨ (((p.toUInt32 >>> ((1 : Int32) &&& 31).toUInt32).toInt32) &&& (3 : Int32)) = 2 ∨ (((p.toUInt32 >>> ((1 : Int32) &&& 31).toUInt32).toInt32) &&& (3 : Int32)) = 3 := by
  generalize ((p.toUInt32 >>> ((1 : Int32) &&& 31).toUInt32).toInt32) = x
  have a := c_and x 3 (by decide)
  have z : (3 : Int32).toInt = 3 := rfl
  have z0 : (0 : Int32).toInt = 0 := rfl
  have z1 : (1 : Int32).toInt = 1 := rfl
  have z2 : (2 : Int32).toInt = 2 := rfl
  have : (x &&& 3).toInt = 0 ∨ (x &&& 3).toInt = 1 ∨ (x &&& 3).toInt = 2 ∨ (x &&& 3).toInt = 3 := by omega
  rcases this with h | h | h | h
  · exact Or.inl (own_eq_of (by omega))
  · exact Or.inr (Or.inl (own_eq_of (by omega)))
  · exact Or.inr (Or.inr (Or.inl (own_eq_of (by omega))))
  · exact Or.inr (Or.inr (Or.inr (own_eq_of (by omega))))
theorem own_ch (p : Int32) : ¬ (255 : Int32) < ((p &&& (255 : Int32)).toUInt32.toUInt16.toUInt32.toInt32) := by
  have a := c_and p 255 (by decide)
  have b := c_i2c (p &&& 255)
  have z : (255 : Int32).toInt = 255 := rfl
  exact own_nlt_of (by omega)
def own_off (p : Int32) : Int32 := if p = 0 then 0 else -1
theorem own_off_0 {p : Int32} (h : p = 0) : own_off p = 0 := if_pos h
theorem own_off_1 {p : Int32} (h : ¬ p = 0) : own_off p = -1 := if_neg h
theorem own_td (x : Int32) : ∀ i, i < 20 → ∃ y : Int32, (if i = 0 then Value.int x else Value.int 0) = .int y := fun i _ => by
  by_cases h : i = 0
  · exact ⟨x, if_pos h⟩
  · exact ⟨0, if_neg h⟩
theorem pd_0 : parseMethodDescriptor "(C)Ljava/lang/String;" = some ⟨[.char], some (.object "java/lang/String")⟩ := by decide +kernel
theorem pd_1 : parseMethodDescriptor "(C)Z" = some ⟨[.char], some .boolean⟩ := by decide +kernel
theorem pd_2 : parseMethodDescriptor "(C)[B" = some ⟨[.char], some (.array .byte)⟩ := by decide +kernel
theorem pd_3 : parseMethodDescriptor "([BB)V" = some ⟨[(.array .byte), .byte], none⟩ := by decide +kernel
theorem pd_4 : parseMethodDescriptor "()V" = some ⟨[], none⟩ := by decide +kernel
theorem pd_5 : parseMethodDescriptor "(I[BLcom/example/votal/votal/log/Template;Lcom/example/votal/votal/log/DigestAlgorithm;[BLjava/lang/String;I[B)V" = some ⟨[.int, (.array .byte), (.object "com/example/votal/votal/log/Template"), (.object "com/example/votal/votal/log/DigestAlgorithm"), (.array .byte), (.object "java/lang/String"), .int, (.array .byte)], none⟩ := by decide +kernel
theorem pd_6 : parseMethodDescriptor "()Ljava/lang/String;" = some ⟨[], some (.object "java/lang/String")⟩ := by decide +kernel
theorem pd_7 : parseMethodDescriptor "([B)Z" = some ⟨[(.array .byte)], some .boolean⟩ := by decide +kernel
theorem pd_8 : parseMethodDescriptor "()[B" = some ⟨[], some (.array .byte)⟩ := by decide +kernel
theorem pd_9 : parseMethodDescriptor "()Ljava/lang/Object;" = some ⟨[], some (.object "java/lang/Object")⟩ := by decide +kernel
theorem pd_10 : parseMethodDescriptor "([BIII)Z" = some ⟨[(.array .byte), .int, .int, .int], some .boolean⟩ := by decide +kernel
theorem pd_11 : parseMethodDescriptor "(I[BLjava/lang/String;Ljava/lang/String;[B)V" = some ⟨[.int, (.array .byte), (.object "java/lang/String"), (.object "java/lang/String"), (.array .byte)], none⟩ := by decide +kernel
theorem d1_0 : decode jdk_42_method_139_code 0 = .ok (.getstatic 38, 3) := by decide +kernel
theorem d1_3 : decode jdk_42_method_139_code 3 = .ok (.ifCond .eq 23, 3) := by decide +kernel
theorem d1_6 : decode jdk_42_method_139_code 6 = .ok (.iload_n 0, 1) := by decide +kernel
theorem d1_7 : decode jdk_42_method_139_code 7 = .ok (.invokestatic 1015, 3) := by decide +kernel
theorem d1_10 : decode jdk_42_method_139_code 10 = .ok (.ifCond .eq 16, 3) := by decide +kernel
theorem d1_13 : decode jdk_42_method_139_code 13 = .ok (.new 10, 3) := by decide +kernel
theorem d1_16 : decode jdk_42_method_139_code 16 = .ok (.dup, 1) := by decide +kernel
theorem d1_17 : decode jdk_42_method_139_code 17 = .ok (.iload_n 0, 1) := by decide +kernel
theorem d1_18 : decode jdk_42_method_139_code 18 = .ok (.invokestatic 1018, 3) := by decide +kernel
theorem d1_21 : decode jdk_42_method_139_code 21 = .ok (.iconst 0, 1) := by decide +kernel
theorem d1_22 : decode jdk_42_method_139_code 22 = .ok (.invokespecial 209, 3) := by decide +kernel
theorem d1_25 : decode jdk_42_method_139_code 25 = .ok (.areturn, 1) := by decide +kernel
theorem d1_26 : decode jdk_42_method_139_code 26 = .ok (.new 10, 3) := by decide +kernel
theorem d1_29 : decode jdk_42_method_139_code 29 = .ok (.dup, 1) := by decide +kernel
theorem d1_30 : decode jdk_42_method_139_code 30 = .ok (.iload_n 0, 1) := by decide +kernel
theorem d1_31 : decode jdk_42_method_139_code 31 = .ok (.invokestatic 1021, 3) := by decide +kernel
theorem d1_34 : decode jdk_42_method_139_code 34 = .ok (.iconst 1, 1) := by decide +kernel
theorem d1_35 : decode jdk_42_method_139_code 35 = .ok (.invokespecial 209, 3) := by decide +kernel
theorem d1_38 : decode jdk_42_method_139_code 38 = .ok (.areturn, 1) := by decide +kernel
theorem pn_1 : plainName "java/lang/String" = true := by first | (simp [plainName, overriddenIn]; done) | decide +kernel
theorem d2_0 : decode jdk_43_method_3_code 0 = .ok (.iload_n 0, 1) := by decide +kernel
theorem d2_1 : decode jdk_43_method_3_code 1 = .ok (.sipush 255, 3) := by decide +kernel
theorem d2_4 : decode jdk_43_method_3_code 4 = .ok (.if_icmp .gt 7, 3) := by decide +kernel
theorem d2_7 : decode jdk_43_method_3_code 7 = .ok (.iconst 1, 1) := by decide +kernel
theorem d2_8 : decode jdk_43_method_3_code 8 = .ok (.goto 4, 3) := by decide +kernel
theorem d2_11 : decode jdk_43_method_3_code 11 = .ok (.iconst 0, 1) := by decide +kernel
theorem d2_12 : decode jdk_43_method_3_code 12 = .ok (.ireturn, 1) := by decide +kernel
theorem pn_2 : plainName "java/lang/StringLatin1" = true := by first | (simp [plainName, overriddenIn]; done) | decide +kernel
theorem d3_0 : decode jdk_43_method_46_code 0 = .ok (.iconst 1, 1) := by decide +kernel
theorem d3_1 : decode jdk_43_method_46_code 1 = .ok (.newarray .byte, 2) := by decide +kernel
theorem d3_3 : decode jdk_43_method_46_code 3 = .ok (.dup, 1) := by decide +kernel
theorem d3_4 : decode jdk_43_method_46_code 4 = .ok (.iconst 0, 1) := by decide +kernel
theorem d3_5 : decode jdk_43_method_46_code 5 = .ok (.iload_n 0, 1) := by decide +kernel
theorem d3_6 : decode jdk_43_method_46_code 6 = .ok (.i2b, 1) := by decide +kernel
theorem d3_7 : decode jdk_43_method_46_code 7 = .ok (.bastore, 1) := by decide +kernel
theorem d3_8 : decode jdk_43_method_46_code 8 = .ok (.areturn, 1) := by decide +kernel
theorem pn_3 : plainName "java/lang/StringLatin1" = true := by first | (simp [plainName, overriddenIn]; done) | decide +kernel
theorem d4_0 : decode jdk_42_method_151_code 0 = .ok (.aload_n 0, 1) := by decide +kernel
theorem d4_1 : decode jdk_42_method_151_code 1 = .ok (.invokespecial 1, 3) := by decide +kernel
theorem d4_4 : decode jdk_42_method_151_code 4 = .ok (.aload_n 0, 1) := by decide +kernel
theorem d4_5 : decode jdk_42_method_151_code 5 = .ok (.aload_n 1, 1) := by decide +kernel
theorem d4_6 : decode jdk_42_method_151_code 6 = .ok (.putfield 9, 3) := by decide +kernel
theorem d4_9 : decode jdk_42_method_151_code 9 = .ok (.aload_n 0, 1) := by decide +kernel
theorem d4_10 : decode jdk_42_method_151_code 10 = .ok (.iload_n 2, 1) := by decide +kernel
theorem d4_11 : decode jdk_42_method_151_code 11 = .ok (.putfield 15, 3) := by decide +kernel
theorem d4_14 : decode jdk_42_method_151_code 14 = .ok (.return_, 1) := by decide +kernel
theorem pn_4 : plainName "java/lang/String" = true := by first | (simp [plainName, overriddenIn]; done) | decide +kernel
theorem d6_0 : decode prog_49_method_1_code 0 = .ok (.aload_n 0, 1) := by decide +kernel
theorem d6_1 : decode prog_49_method_1_code 1 = .ok (.invokespecial 1, 3) := by decide +kernel
theorem d6_4 : decode prog_49_method_1_code 4 = .ok (.aload_n 0, 1) := by decide +kernel
theorem d6_5 : decode prog_49_method_1_code 5 = .ok (.iload_n 1, 1) := by decide +kernel
theorem d6_6 : decode prog_49_method_1_code 6 = .ok (.putfield 7, 3) := by decide +kernel
theorem d6_9 : decode prog_49_method_1_code 9 = .ok (.aload_n 0, 1) := by decide +kernel
theorem d6_10 : decode prog_49_method_1_code 10 = .ok (.aload_n 2, 1) := by decide +kernel
theorem d6_11 : decode prog_49_method_1_code 11 = .ok (.putfield 13, 3) := by decide +kernel
theorem d6_14 : decode prog_49_method_1_code 14 = .ok (.aload_n 0, 1) := by decide +kernel
theorem d6_15 : decode prog_49_method_1_code 15 = .ok (.aload_n 3, 1) := by decide +kernel
theorem d6_16 : decode prog_49_method_1_code 16 = .ok (.invokevirtual 17, 3) := by decide +kernel
theorem d6_19 : decode prog_49_method_1_code 19 = .ok (.putfield 23, 3) := by decide +kernel
theorem d6_22 : decode prog_49_method_1_code 22 = .ok (.aload_n 0, 1) := by decide +kernel
theorem d6_23 : decode prog_49_method_1_code 23 = .ok (.aload_n 3, 1) := by decide +kernel
theorem d6_24 : decode prog_49_method_1_code 24 = .ok (.putfield 27, 3) := by decide +kernel
theorem d6_27 : decode prog_49_method_1_code 27 = .ok (.aload_n 0, 1) := by decide +kernel
theorem d6_28 : decode prog_49_method_1_code 28 = .ok (.aload 6, 2) := by decide +kernel
theorem d6_30 : decode prog_49_method_1_code 30 = .ok (.putfield 31, 3) := by decide +kernel
theorem d6_33 : decode prog_49_method_1_code 33 = .ok (.aload_n 0, 1) := by decide +kernel
theorem d6_34 : decode prog_49_method_1_code 34 = .ok (.aload 4, 2) := by decide +kernel
theorem d6_36 : decode prog_49_method_1_code 36 = .ok (.putfield 34, 3) := by decide +kernel
theorem d6_39 : decode prog_49_method_1_code 39 = .ok (.aload_n 0, 1) := by decide +kernel
theorem d6_40 : decode prog_49_method_1_code 40 = .ok (.aload 5, 2) := by decide +kernel
theorem d6_42 : decode prog_49_method_1_code 42 = .ok (.putfield 38, 3) := by decide +kernel
theorem d6_45 : decode prog_49_method_1_code 45 = .ok (.aload_n 0, 1) := by decide +kernel
theorem d6_46 : decode prog_49_method_1_code 46 = .ok (.iload 7, 2) := by decide +kernel
theorem d6_48 : decode prog_49_method_1_code 48 = .ok (.putfield 41, 3) := by decide +kernel
theorem d6_51 : decode prog_49_method_1_code 51 = .ok (.aload_n 0, 1) := by decide +kernel
theorem d6_52 : decode prog_49_method_1_code 52 = .ok (.aload 8, 2) := by decide +kernel
theorem d6_54 : decode prog_49_method_1_code 54 = .ok (.putfield 44, 3) := by decide +kernel
theorem d6_57 : decode prog_49_method_1_code 57 = .ok (.aload_n 0, 1) := by decide +kernel
theorem d6_58 : decode prog_49_method_1_code 58 = .ok (.aload_n 2, 1) := by decide +kernel
theorem d6_59 : decode prog_49_method_1_code 59 = .ok (.invokestatic 47, 3) := by decide +kernel
theorem d6_62 : decode prog_49_method_1_code 62 = .ok (.putfield 51, 3) := by decide +kernel
theorem d6_65 : decode prog_49_method_1_code 65 = .ok (.return_, 1) := by decide +kernel
theorem pn_6 : plainName "com/example/votal/votal/log/LogRecord" = true := by first | (simp [plainName, overriddenIn]; done) | decide +kernel
theorem d7_0 : decode prog_53_method_5_code 0 = .ok (.aload_n 0, 1) := by decide +kernel
theorem d7_1 : decode prog_53_method_5_code 1 = .ok (.getfield 29, 3) := by decide +kernel
theorem d7_4 : decode prog_53_method_5_code 4 = .ok (.areturn, 1) := by decide +kernel
theorem pn_7 : plainName "com/example/votal/votal/log/Template" = true := by first | (simp [plainName, overriddenIn]; done) | decide +kernel
theorem d8_0 : decode prog_49_method_16_code 0 = .ok (.iconst 1, 1) := by decide +kernel
theorem d8_1 : decode prog_49_method_16_code 1 = .ok (.istore_n 1, 1) := by decide +kernel
theorem d8_2 : decode prog_49_method_16_code 2 = .ok (.aload_n 0, 1) := by decide +kernel
theorem d8_3 : decode prog_49_method_16_code 3 = .ok (.astore_n 2, 1) := by decide +kernel
theorem d8_4 : decode prog_49_method_16_code 4 = .ok (.aload_n 2, 1) := by decide +kernel
theorem d8_5 : decode prog_49_method_16_code 5 = .ok (.arraylength, 1) := by decide +kernel
theorem d8_6 : decode prog_49_method_16_code 6 = .ok (.istore_n 3, 1) := by decide +kernel
theorem d8_7 : decode prog_49_method_16_code 7 = .ok (.iconst 0, 1) := by decide +kernel
theorem d8_8 : decode prog_49_method_16_code 8 = .ok (.istore 4, 2) := by decide +kernel
theorem d8_10 : decode prog_49_method_16_code 10 = .ok (.iload 4, 2) := by decide +kernel
theorem d8_12 : decode prog_49_method_16_code 12 = .ok (.iload_n 3, 1) := by decide +kernel
theorem d8_13 : decode prog_49_method_16_code 13 = .ok (.if_icmp .ge 28, 3) := by decide +kernel
theorem d8_16 : decode prog_49_method_16_code 16 = .ok (.aload_n 2, 1) := by decide +kernel
theorem d8_17 : decode prog_49_method_16_code 17 = .ok (.iload 4, 2) := by decide +kernel
theorem d8_19 : decode prog_49_method_16_code 19 = .ok (.baload, 1) := by decide +kernel
theorem d8_20 : decode prog_49_method_16_code 20 = .ok (.istore 5, 2) := by decide +kernel
theorem d8_22 : decode prog_49_method_16_code 22 = .ok (.iload_n 1, 1) := by decide +kernel
theorem d8_23 : decode prog_49_method_16_code 23 = .ok (.iload 5, 2) := by decide +kernel
theorem d8_25 : decode prog_49_method_16_code 25 = .ok (.ifCond .ne 7, 3) := by decide +kernel
theorem d8_28 : decode prog_49_method_16_code 28 = .ok (.iconst 1, 1) := by decide +kernel
theorem d8_29 : decode prog_49_method_16_code 29 = .ok (.goto 4, 3) := by decide +kernel
theorem d8_32 : decode prog_49_method_16_code 32 = .ok (.iconst 0, 1) := by decide +kernel
theorem d8_33 : decode prog_49_method_16_code 33 = .ok (.iand, 1) := by decide +kernel
theorem d8_34 : decode prog_49_method_16_code 34 = .ok (.istore_n 1, 1) := by decide +kernel
theorem d8_35 : decode prog_49_method_16_code 35 = .ok (.iinc 4 1, 3) := by decide +kernel
theorem d8_38 : decode prog_49_method_16_code 38 = .ok (.goto (-28), 3) := by decide +kernel
theorem d8_41 : decode prog_49_method_16_code 41 = .ok (.iload_n 1, 1) := by decide +kernel
theorem d8_42 : decode prog_49_method_16_code 42 = .ok (.ireturn, 1) := by decide +kernel
theorem pn_8 : plainName "com/example/votal/votal/log/LogRecord" = true := by first | (simp [plainName, overriddenIn]; done) | decide +kernel
theorem d9_0 : decode prog_49_method_10_code 0 = .ok (.aload_n 0, 1) := by decide +kernel
theorem d9_1 : decode prog_49_method_10_code 1 = .ok (.getfield 38, 3) := by decide +kernel
theorem d9_4 : decode prog_49_method_10_code 4 = .ok (.ifnonnull 7, 3) := by decide +kernel
theorem d9_7 : decode prog_49_method_10_code 7 = .ok (.aconst_null, 1) := by decide +kernel
theorem d9_8 : decode prog_49_method_10_code 8 = .ok (.goto 13, 3) := by decide +kernel
theorem d9_11 : decode prog_49_method_10_code 11 = .ok (.aload_n 0, 1) := by decide +kernel
theorem d9_12 : decode prog_49_method_10_code 12 = .ok (.getfield 38, 3) := by decide +kernel
theorem d9_15 : decode prog_49_method_10_code 15 = .ok (.invokevirtual 91, 3) := by decide +kernel
theorem d9_18 : decode prog_49_method_10_code 18 = .ok (.checkcast 73, 3) := by decide +kernel
theorem d9_21 : decode prog_49_method_10_code 21 = .ok (.areturn, 1) := by decide +kernel
theorem pn_9 : plainName "com/example/votal/votal/log/LogRecord" = true := by first | (simp [plainName, overriddenIn]; done) | decide +kernel
theorem d10_0 : decode method_3_code 0 = .ok (.aload_n 0, 1) := by decide +kernel
theorem d10_1 : decode method_3_code 1 = .ok (.arraylength, 1) := by decide +kernel
theorem d10_2 : decode method_3_code 2 = .ok (.iload_n 1, 1) := by decide +kernel
theorem d10_3 : decode method_3_code 3 = .ok (.if_icmp .eq 5, 3) := by decide +kernel
theorem d10_6 : decode method_3_code 6 = .ok (.iconst 0, 1) := by decide +kernel
theorem d10_7 : decode method_3_code 7 = .ok (.ireturn, 1) := by decide +kernel
theorem d10_8 : decode method_3_code 8 = .ok (.iload_n 1, 1) := by decide +kernel
theorem d10_9 : decode method_3_code 9 = .ok (.ifCond .le 13, 3) := by decide +kernel
theorem d10_12 : decode method_3_code 12 = .ok (.aload_n 0, 1) := by decide +kernel
theorem d10_13 : decode method_3_code 13 = .ok (.iconst 0, 1) := by decide +kernel
theorem d10_14 : decode method_3_code 14 = .ok (.baload, 1) := by decide +kernel
theorem d10_15 : decode method_3_code 15 = .ok (.iload_n 2, 1) := by decide +kernel
theorem d10_16 : decode method_3_code 16 = .ok (.i2b, 1) := by decide +kernel
theorem d10_17 : decode method_3_code 17 = .ok (.if_icmp .eq 5, 3) := by decide +kernel
theorem d10_20 : decode method_3_code 20 = .ok (.iconst 0, 1) := by decide +kernel
theorem d10_21 : decode method_3_code 21 = .ok (.ireturn, 1) := by decide +kernel
theorem d10_22 : decode method_3_code 22 = .ok (.iload_n 1, 1) := by decide +kernel
theorem d10_23 : decode method_3_code 23 = .ok (.iconst 1, 1) := by decide +kernel
theorem d10_24 : decode method_3_code 24 = .ok (.if_icmp .le 16, 3) := by decide +kernel
theorem d10_27 : decode method_3_code 27 = .ok (.aload_n 0, 1) := by decide +kernel
theorem d10_28 : decode method_3_code 28 = .ok (.iconst 1, 1) := by decide +kernel
theorem d10_29 : decode method_3_code 29 = .ok (.baload, 1) := by decide +kernel
theorem d10_30 : decode method_3_code 30 = .ok (.iload_n 2, 1) := by decide +kernel
theorem d10_31 : decode method_3_code 31 = .ok (.bipush 8, 2) := by decide +kernel
theorem d10_33 : decode method_3_code 33 = .ok (.iushr, 1) := by decide +kernel
theorem d10_34 : decode method_3_code 34 = .ok (.i2b, 1) := by decide +kernel
theorem d10_35 : decode method_3_code 35 = .ok (.if_icmp .eq 5, 3) := by decide +kernel
theorem d10_38 : decode method_3_code 38 = .ok (.iconst 0, 1) := by decide +kernel
theorem d10_39 : decode method_3_code 39 = .ok (.ireturn, 1) := by decide +kernel
theorem d10_40 : decode method_3_code 40 = .ok (.iload_n 1, 1) := by decide +kernel
theorem d10_41 : decode method_3_code 41 = .ok (.iconst 2, 1) := by decide +kernel
theorem d10_42 : decode method_3_code 42 = .ok (.if_icmp .le 13, 3) := by decide +kernel
theorem d10_45 : decode method_3_code 45 = .ok (.aload_n 0, 1) := by decide +kernel
theorem d10_46 : decode method_3_code 46 = .ok (.iconst 2, 1) := by decide +kernel
theorem d10_47 : decode method_3_code 47 = .ok (.baload, 1) := by decide +kernel
theorem d10_48 : decode method_3_code 48 = .ok (.iload_n 3, 1) := by decide +kernel
theorem d10_49 : decode method_3_code 49 = .ok (.i2b, 1) := by decide +kernel
theorem d10_50 : decode method_3_code 50 = .ok (.if_icmp .eq 5, 3) := by decide +kernel
theorem d10_53 : decode method_3_code 53 = .ok (.iconst 0, 1) := by decide +kernel
theorem d10_54 : decode method_3_code 54 = .ok (.ireturn, 1) := by decide +kernel
theorem d10_55 : decode method_3_code 55 = .ok (.iconst 1, 1) := by decide +kernel
theorem d10_56 : decode method_3_code 56 = .ok (.ireturn, 1) := by decide +kernel
theorem pn_10 : plainName "com/example/votal/votal/log/LogRecordGetDigestPinLaw" = true := by first | (simp [plainName, overriddenIn]; done) | decide +kernel
theorem d11_0 : decode prog_49_method_2_code 0 = .ok (.aload_n 0, 1) := by decide +kernel
theorem d11_1 : decode prog_49_method_2_code 1 = .ok (.invokespecial 1, 3) := by decide +kernel
theorem d11_4 : decode prog_49_method_2_code 4 = .ok (.aload_n 0, 1) := by decide +kernel
theorem d11_5 : decode prog_49_method_2_code 5 = .ok (.iload_n 1, 1) := by decide +kernel
theorem d11_6 : decode prog_49_method_2_code 6 = .ok (.putfield 7, 3) := by decide +kernel
theorem d11_9 : decode prog_49_method_2_code 9 = .ok (.aload_n 0, 1) := by decide +kernel
theorem d11_10 : decode prog_49_method_2_code 10 = .ok (.aload_n 2, 1) := by decide +kernel
theorem d11_11 : decode prog_49_method_2_code 11 = .ok (.putfield 13, 3) := by decide +kernel
theorem d11_14 : decode prog_49_method_2_code 14 = .ok (.aload_n 0, 1) := by decide +kernel
theorem d11_15 : decode prog_49_method_2_code 15 = .ok (.aload_n 3, 1) := by decide +kernel
theorem d11_16 : decode prog_49_method_2_code 16 = .ok (.putfield 23, 3) := by decide +kernel
theorem d11_19 : decode prog_49_method_2_code 19 = .ok (.aload_n 0, 1) := by decide +kernel
theorem d11_20 : decode prog_49_method_2_code 20 = .ok (.aconst_null, 1) := by decide +kernel
theorem d11_21 : decode prog_49_method_2_code 21 = .ok (.putfield 27, 3) := by decide +kernel
theorem d11_24 : decode prog_49_method_2_code 24 = .ok (.aload_n 0, 1) := by decide +kernel
theorem d11_25 : decode prog_49_method_2_code 25 = .ok (.aload 4, 2) := by decide +kernel
theorem d11_27 : decode prog_49_method_2_code 27 = .ok (.putfield 31, 3) := by decide +kernel
theorem d11_30 : decode prog_49_method_2_code 30 = .ok (.aload_n 0, 1) := by decide +kernel
theorem d11_31 : decode prog_49_method_2_code 31 = .ok (.aconst_null, 1) := by decide +kernel
theorem d11_32 : decode prog_49_method_2_code 32 = .ok (.putfield 34, 3) := by decide +kernel
theorem d11_35 : decode prog_49_method_2_code 35 = .ok (.aload_n 0, 1) := by decide +kernel
theorem d11_36 : decode prog_49_method_2_code 36 = .ok (.aconst_null, 1) := by decide +kernel
theorem d11_37 : decode prog_49_method_2_code 37 = .ok (.putfield 38, 3) := by decide +kernel
theorem d11_40 : decode prog_49_method_2_code 40 = .ok (.aload_n 0, 1) := by decide +kernel
theorem d11_41 : decode prog_49_method_2_code 41 = .ok (.iconst (-1), 1) := by decide +kernel
theorem d11_42 : decode prog_49_method_2_code 42 = .ok (.putfield 41, 3) := by decide +kernel
theorem d11_45 : decode prog_49_method_2_code 45 = .ok (.aload_n 0, 1) := by decide +kernel
theorem d11_46 : decode prog_49_method_2_code 46 = .ok (.aload 5, 2) := by decide +kernel
theorem d11_48 : decode prog_49_method_2_code 48 = .ok (.putfield 44, 3) := by decide +kernel
theorem d11_51 : decode prog_49_method_2_code 51 = .ok (.aload_n 0, 1) := by decide +kernel
theorem d11_52 : decode prog_49_method_2_code 52 = .ok (.aload_n 2, 1) := by decide +kernel
theorem d11_53 : decode prog_49_method_2_code 53 = .ok (.invokestatic 47, 3) := by decide +kernel
theorem d11_56 : decode prog_49_method_2_code 56 = .ok (.putfield 51, 3) := by decide +kernel
theorem d11_59 : decode prog_49_method_2_code 59 = .ok (.return_, 1) := by decide +kernel
theorem pn_11 : plainName "com/example/votal/votal/log/LogRecord" = true := by first | (simp [plainName, overriddenIn]; done) | decide +kernel
theorem pn_0 : plainName "com/example/votal/votal/log/LogRecordGetDigestPinLaw" = true := by first | (simp [plainName, overriddenIn]; done) | decide +kernel
theorem ef_rm2 (m : MethodId) (x0 : Int32) : entryFrame m #[(.int x0)] 1 = mkF m 0 #[.val (.int x0)] [] := by first | (simp [entryFrame, mkF, argsToLocals, Value.category]; done) | rfl
def Q2 (Z : State) (p1 : Int32) (h0 : Heap) (n0 : Nat) (v : Option Value) (h : Heap) (L : List Loc) : Prop := v = some (.int 1) ∧ Fr n0 L ∧ h = h0
set_option maxRecDepth 65536 in
set_option maxHeartbeats 40000000 in
theorem rm2 (l : Launch) (Z : State) (a0 : Array Value) (hw : ∀ d ∈ tables_1, d.before a0 Z = true) (ws : List Jvm.Cond) (p1 : Int32) (h0 : Heap) (n0 : Nat) (Z0 : n0 ≤ h0.size) (hp : ¬ (255 : Int32) < p1) :
    MetFree l (⟨"java/lang/StringLatin1", "canEncode", "(C)Z"⟩ : MethodName) (head1 (Jvm.Cond.code (⟨"java/lang/StringLatin1", "canEncode", "(C)Z"⟩ : MethodName) jdk_43_method_3_code 1 (some .boolean) :: ws) ({ frames := 0, cells := 0, slots := 0, locals := 0 } : Room)) (fun a U => a = #[(.int p1)] ∧ Z.Warmed39 U.vm ∧ U.heap = h0) (fun _ _ _ _ _ => True) (fun _ U o U' => ∃ v L, o = .returned v ∧ Q2 Z p1 h0 n0 v U'.heap L ∧ FrameEnd U o U' L ({ frames := 0, cells := 0, slots := 0, locals := 0 } : Room).cells ({ frames := 0, cells := 0, slots := 0, locals := 0 } : Room).slots) := by
  refine MetFree.of_bodySF (plainFor_of_name pn_2) hisR ?_
  intro p e s m args below meth c s₁ Bd hml0 hP hK
  obtain ⟨rfl, hZ, hh⟩ := hP
  have hx := Bd.exec
  have hby := Bd.bytes
  have hml : c.maxLocals = 1 := hml0
  have hown : s.vm.findClass "java/lang/StringLatin1" = some m.cls := findClass_of_methodNamed Bd.named
  have hnm := (name_of_methodNamed Bd.named Bd.method).1
  have X0 : Stand p l e ({ frames := 0, cells := 0, slots := 0, locals := 0 } : Room) s m #[(.int p1)] below meth c s₁ [] 0 0 := Stand.of_body Bd
  have e0 : s₁.heap = h0 := by rw [← hh, Bd.state]; rfl
  have N0 := Fr.nil n0
  have a0s : ∀ t, Steps p.tables e below (s₁.setTop (mkF m 0 #[.val (.int p1)] [])) t → Steps p.tables e below (s₁.setTop (entryFrame m #[(.int p1)] 1)) t := fun t k => castTop (ef_rm2 m p1) k
  have ac1 : ∀ t, Steps p.tables e below (s₁.setTop (mkF m 12 #[.val (.int p1)] [(.int (1 : Int32))])) t → Steps p.tables e below (s₁.setTop (entryFrame m #[(.int p1)] 1)) t := fun t k => a0s t (by
      show Steps p.tables e below (s₁.setTop (mkF m 0 #[.val (.int p1)] [])) _
      refine XS.iloadN X0.here hx rfl (hb hby d2_0) rfl ?_
      show Steps p.tables e below (s₁.setTop (mkF m 1 #[.val (.int p1)] [(.int p1)])) _
      refine XS.sipush X0.here hx rfl (hb hby d2_1) ?_
      show Steps p.tables e below (s₁.setTop (mkF m 4 #[.val (.int p1)] [(.int (255 : Int32)), (.int p1)])) _
      refine XS.icmpNo X0.here hx rfl (hb hby d2_4) rfl (flt hp).2.2.1 ?_
      show Steps p.tables e below (s₁.setTop (mkF m 7 #[.val (.int p1)] [])) _
      refine XS.iconst X0.here hx rfl (hb hby d2_7) ?_
      show Steps p.tables e below (s₁.setTop (mkF m 8 #[.val (.int p1)] [(.int (1 : Int32))])) _
      refine XS.goto X0.here hx rfl (pc0 := 8) (pc' := 12) rfl (hb hby d2_8) (by decide) (by decide) ?_
      exact k)
  obtain ⟨fs, hr, hrun, hended, hW, hsame⟩ := X0.leave (v := some (.int (1 : Int32))) (fun h => by rw [Bd.returns] at h; cases h) (BodyLoose.notSynchronized Bd)
  refine ⟨_, _, ac1 _ ?_, hrun, hended, _, _, rfl, ?_, ⟨_, rfl⟩, hW, hsame.mono (by decide) (by decide)⟩
  · show Steps p.tables e below (s₁.setTop (mkF m 12 #[.val (.int p1)] [(.int (1 : Int32))])) _
    exact retN X0 hx (t := .boolean) Bd.returns (by simp) (hb hby d2_12) hr
  · show Q2 Z p1 h0 n0 _ s₁.heap _
    rw [e0]
    exact ⟨rfl, N0, rfl⟩
theorem ef_rm3 (m : MethodId) (x0 : Int32) : entryFrame m #[(.int x0)] 1 = mkF m 0 #[.val (.int x0)] [] := by first | (simp [entryFrame, mkF, argsToLocals, Value.category]; done) | rfl
def Q3 (Z : State) (p1 : Int32) (h0 : Heap) (n0 : Nat) (v : Option Value) (h : Heap) (L : List Loc) : Prop := ∃ r : Addr, v = some (.ref r) ∧ Fr n0 L ∧ Keep h0 h [] ∧ h0.size ≤ r
set_option maxRecDepth 65536 in
set_option maxHeartbeats 40000000 in
theorem rm3 (l : Launch) (Z : State) (a0 : Array Value) (hw : ∀ d ∈ tables_1, d.before a0 Z = true) (ws : List Jvm.Cond) (p1 : Int32) (h0 : Heap) (n0 : Nat) (Z0 : n0 ≤ h0.size) :
    MetFree l (⟨"java/lang/StringLatin1", "toBytes", "(C)[B"⟩ : MethodName) (head1 (Jvm.Cond.code (⟨"java/lang/StringLatin1", "toBytes", "(C)[B"⟩ : MethodName) jdk_43_method_46_code 1 (some (.array .byte)) :: ws) ({ frames := 0, cells := 1, slots := 1, locals := 0 } : Room)) (fun a U => a = #[(.int p1)] ∧ Z.Warmed39 U.vm ∧ U.heap = h0) (fun _ _ _ _ _ => True) (fun _ U o U' => ∃ v L, o = .returned v ∧ Q3 Z p1 h0 n0 v U'.heap L ∧ FrameEnd U o U' L ({ frames := 0, cells := 1, slots := 1, locals := 0 } : Room).cells ({ frames := 0, cells := 1, slots := 1, locals := 0 } : Room).slots) := by
  refine MetFree.of_bodySF (plainFor_of_name pn_3) hisR ?_
  intro p e s m args below meth c s₁ Bd hml0 hP hK
  obtain ⟨rfl, hZ, hh⟩ := hP
  have hx := Bd.exec
  have hby := Bd.bytes
  have hml : c.maxLocals = 1 := hml0
  have hown : s.vm.findClass "java/lang/StringLatin1" = some m.cls := findClass_of_methodNamed Bd.named
  have hnm := (name_of_methodNamed Bd.named Bd.method).1
  have X0 : Stand p l e ({ frames := 0, cells := 1, slots := 1, locals := 0 } : Room) s m #[(.int p1)] below meth c s₁ [] 0 0 := Stand.of_body Bd
  have e0 : s₁.heap = h0 := by rw [← hh, Bd.state]; rfl
  have N0 := Fr.nil n0
  have a0s : ∀ t, Steps p.tables e below (s₁.setTop (mkF m 0 #[.val (.int p1)] [])) t → Steps p.tables e below (s₁.setTop (entryFrame m #[(.int p1)] 1)) t := fun t k => castTop (ef_rm3 m p1) k
  have ac1 : ∀ t, Steps p.tables e below (s₁.setTop (mkF m 1 #[.val (.int p1)] [(.int (1 : Int32))])) t → Steps p.tables e below (s₁.setTop (entryFrame m #[(.int p1)] 1)) t := fun t k => a0s t (by
      show Steps p.tables e below (s₁.setTop (mkF m 0 #[.val (.int p1)] [])) _
      refine XS.iconst X0.here hx rfl (hb hby d3_0) ?_
      exact k)
  obtain ⟨T2, h2, k2, X2, e2, E2, A2, st2⟩ := newP X0 hx hZ (hw _ (List.mem_of_getElem? (i := 0) rfl)) e0 (g := (mkF m 1 #[.val (.int p1)] [(.int (1 : Int32))])) rfl (hb hby d3_1) rfl (by decide) (cap := 1) (by decide) (by decide) (by decide) (by decide)
  obtain ⟨b2, g2⟩ : ∃ z, z = h0.size := ⟨_, rfl⟩
  rw [← g2] at A2 st2
  have g_b2 : n0 ≤ b2 := Nat.le_trans Z0 (Nat.le_of_eq g2.symm)
  have sz_b2 : h0.size ≤ b2 := Nat.le_trans (Keep.refl h0 []).1 (Nat.le_of_eq g2.symm)
  have Z2 : n0 ≤ h2.size := Nat.le_trans Z0 E2.1
  have Kp3 : Keep h0 h2 [] := (Keep.refl h0 []).ext E2
  have V2 : own_Ar Z h2 b2 .byte 1 (fun _ => (.int (0 : Int32))) := own_Ar.new A2 rfl
  have ac4 : ∀ t, Steps p.tables e below (T2.setTop (mkF m 3 #[.val (.int p1)] [(.ref b2)])) t → Steps p.tables e below (s₁.setTop (entryFrame m #[(.int p1)] 1)) t := fun t k => ac1 t (st2 t k)
  have ac5 : ∀ t, Steps p.tables e below (T2.setTop (mkF m 7 #[.val (.int p1)] [(.int (p1.toInt8.toInt32)), (.int (0 : Int32)), (.ref b2), (.ref b2)])) t → Steps p.tables e below (s₁.setTop (entryFrame m #[(.int p1)] 1)) t := fun t k => ac4 t (by
      show Steps p.tables e below (T2.setTop (mkF m 3 #[.val (.int p1)] [(.ref b2)])) _
      refine XS.dup X2.here hx rfl (hb hby d3_3) rfl rfl ?_
      show Steps p.tables e below (T2.setTop (mkF m 4 #[.val (.int p1)] [(.ref b2), (.ref b2)])) _
      refine XS.iconst X2.here hx rfl (hb hby d3_4) ?_
      show Steps p.tables e below (T2.setTop (mkF m 5 #[.val (.int p1)] [(.int (0 : Int32)), (.ref b2), (.ref b2)])) _
      refine XS.iloadN X2.here hx rfl (hb hby d3_5) rfl ?_
      show Steps p.tables e below (T2.setTop (mkF m 6 #[.val (.int p1)] [(.int p1), (.int (0 : Int32)), (.ref b2), (.ref b2)])) _
      refine XS.i2b X2.here hx rfl (hb hby d3_6) rfl ?_
      exact k)
  obtain ⟨cl6, Ac6, hin6, -⟩ := V2.at (j := (0 : Int32)) (i := 0) rfl (by decide)
  obtain ⟨T6, h6, X6, e6, W6, st6⟩ := stB X2 hx hZ e2 Ac6 (j := (0 : Int32)) hin6 (g := (mkF m 7 #[.val (.int p1)] [(.int (p1.toInt8.toInt32)), (.int (0 : Int32)), (.ref b2), (.ref b2)])) rfl rfl (hb hby d3_7)
  have V6 := V2.set (i := 0) rfl W6 (fits_nar_byte _)
  have N6 := Fr.snoc X6 N0 g_b2
  have Z6 : n0 ≤ h6.size := Nat.le_trans Z2 (Keep.of_wr W6).1
  have Kp7 : Keep h0 h6 [] := Kp3.wr W6 (Or.inr sz_b2)
  have ac8 : ∀ t, Steps p.tables e below (T6.setTop (mkF m 8 #[.val (.int p1)] [(.ref b2)])) t → Steps p.tables e below (s₁.setTop (entryFrame m #[(.int p1)] 1)) t := fun t k => ac5 t (st6 t k)
  obtain ⟨fs, hr, hrun, hended, hW, hsame⟩ := X6.leave (v := some (.ref b2)) (fun h => by rw [Bd.returns] at h; cases h) (BodyLoose.notSynchronized Bd)
  refine ⟨_, _, ac8 _ ?_, hrun, hended, _, _, rfl, ?_, ⟨_, rfl⟩, hW, hsame.mono (by decide) (by decide)⟩
  · show Steps p.tables e below (T6.setTop (mkF m 8 #[.val (.int p1)] [(.ref b2)])) _
    exact retOut X6 hx Bd.returns rfl (Or.inr (Or.inr (Or.inr (Or.inr ⟨rfl, rfl, rfl⟩)))) (hb hby d3_8) hr
  · show Q3 Z p1 h0 n0 _ T6.heap _
    rw [e6]
    exact ⟨b2, rfl, N6, Kp7, sz_b2⟩
theorem ef_rm4 (m : MethodId) (x0 : Addr) (x1 : Addr) (x2 : Int32) : entryFrame m #[(.ref x0), (.ref x1), (.int x2)] 3 = mkF m 0 #[.val (.ref x0), .val (.ref x1), .val (.int x2)] [] := by first | (simp [entryFrame, mkF, argsToLocals, Value.category]; done) | rfl
def Q4 (Z : State) (a1 : Addr) (a2 : Addr) (p3 : Int32) (h0 : Heap) (n0 : Nat) (v : Option Value) (h : Heap) (L : List Loc) : Prop := v = none ∧ Fr n0 L ∧ Keep h0 h [a1]
set_option maxRecDepth 65536 in
set_option maxHeartbeats 40000000 in
theorem rm4 (l : Launch) (Z : State) (a0 : Array Value) (hw : ∀ d ∈ tables_1, d.before a0 Z = true) (ws : List Jvm.Cond) (a1 : Addr) (a2 : Addr) (p3 : Int32) (h0 : Heap) (n0 : Nat) (Z0 : n0 ≤ h0.size) (E1 : Exa Z h0 a1 "java/lang/String") (g_a1 : n0 ≤ a1) (F1 : Fld Z h0 a1 "java/lang/String" "value" "[B" .null) (F2 : Fld Z h0 a1 "java/lang/String" "coder" "B" (.int 0)) :
    MetFree l (⟨"java/lang/String", "<init>", "([BB)V"⟩ : MethodName) (head1 (Jvm.Cond.code (⟨"java/lang/String", "<init>", "([BB)V"⟩ : MethodName) jdk_42_method_151_code 3 none :: ws) ({ frames := 1, cells := 0, slots := 0, locals := 12 } : Room)) (fun a U => a = #[(.ref a1), (.ref a2), (.int p3)] ∧ Z.Warmed39 U.vm ∧ U.heap = h0) (fun _ _ _ _ _ => True) (fun _ U o U' => ∃ v L, o = .returned v ∧ Q4 Z a1 a2 p3 h0 n0 v U'.heap L ∧ FrameEnd U o U' L ({ frames := 1, cells := 0, slots := 0, locals := 12 } : Room).cells ({ frames := 1, cells := 0, slots := 0, locals := 12 } : Room).slots) := by
  refine MetFree.of_bodySF (plainFor_of_name pn_4) hisR ?_
  intro p e s m args below meth c s₁ Bd hml0 hP hK
  obtain ⟨rfl, hZ, hh⟩ := hP
  have hx := Bd.exec
  have hby := Bd.bytes
  have hml : c.maxLocals = 3 := hml0
  have hown : s.vm.findClass "java/lang/String" = some m.cls := findClass_of_methodNamed Bd.named
  have hnm := (name_of_methodNamed Bd.named Bd.method).1
  have X0 : Stand p l e ({ frames := 1, cells := 0, slots := 0, locals := 12 } : Room) s m #[(.ref a1), (.ref a2), (.int p3)] below meth c s₁ [] 0 0 := Stand.of_body Bd
  have e0 : s₁.heap = h0 := by rw [← hh, Bd.state]; rfl
  have N0 := Fr.nil n0
  have a0s : ∀ t, Steps p.tables e below (s₁.setTop (mkF m 0 #[.val (.ref a1), .val (.ref a2), .val (.int p3)] [])) t → Steps p.tables e below (s₁.setTop (entryFrame m #[(.ref a1), (.ref a2), (.int p3)] 3)) t := fun t k => castTop (ef_rm4 m a1 a2 p3) k
  have ac1 : ∀ t, Steps p.tables e below (s₁.setTop (mkF m 1 #[.val (.ref a1), .val (.ref a2), .val (.int p3)] [(.ref a1)])) t → Steps p.tables e below (s₁.setTop (entryFrame m #[(.ref a1), (.ref a2), (.int p3)] 3)) t := fun t k => a0s t (by
      show Steps p.tables e below (s₁.setTop (mkF m 0 #[.val (.ref a1), .val (.ref a2), .val (.int p3)] [])) _
      refine XS.aloadN X0.here hx rfl (hb hby d4_0) rfl rfl ?_
      exact k)
  obtain ⟨T2, X2, e2, st2⟩ := initO X0 hx hZ hown (hw _ (List.mem_of_getElem? (i := 19) rfl)) (hw _ (List.mem_of_getElem? (i := 20) rfl)) (hw _ (List.mem_of_getElem? (i := 21) rfl)) e0 (g := (mkF m 1 #[.val (.ref a1), .val (.ref a2), .val (.int p3)] [(.ref a1)])) rfl (by rw [hml]; rfl) rfl (hb hby d4_1) (by decide) (W := 0) (by show 2 * 0 + _ ≤ _; exact Nat.le_of_eq rfl) (by decide)
  have ac3 : ∀ t, Steps p.tables e below (T2.setTop (mkF m 4 #[.val (.ref a1), .val (.ref a2), .val (.int p3)] [])) t → Steps p.tables e below (s₁.setTop (entryFrame m #[(.ref a1), (.ref a2), (.int p3)] 3)) t := fun t k => ac1 t (st2 t k)
  have ac4 : ∀ t, Steps p.tables e below (T2.setTop (mkF m 6 #[.val (.ref a1), .val (.ref a2), .val (.int p3)] [(.ref a2), (.ref a1)])) t → Steps p.tables e below (s₁.setTop (entryFrame m #[(.ref a1), (.ref a2), (.int p3)] 3)) t := fun t k => ac3 t (by
      show Steps p.tables e below (T2.setTop (mkF m 4 #[.val (.ref a1), .val (.ref a2), .val (.int p3)] [])) _
      refine XS.aloadN X2.here hx rfl (hb hby d4_4) rfl rfl ?_
      show Steps p.tables e below (T2.setTop (mkF m 5 #[.val (.ref a1), .val (.ref a2), .val (.int p3)] [(.ref a1)])) _
      refine XS.aloadN X2.here hx rfl (hb hby d4_5) rfl rfl ?_
      exact k)
  obtain ⟨T5, h5, X5, e5, W5, st5⟩ := putF X2 hx hZ hown (host := "") (Or.inl (hw _ (List.mem_of_getElem? (i := 22) rfl))) Via.refl e2 F1 E1 (Or.inr ⟨(hw _ (List.mem_of_getElem? (i := 23) rfl)), rfl, hnm⟩) (hw _ (List.mem_of_getElem? (i := 11) rfl)) (ty := (.array .byte)) (by decide) rfl rfl (g := (mkF m 6 #[.val (.ref a1), .val (.ref a2), .val (.int p3)] [(.ref a2), (.ref a1)])) rfl rfl (hb hby d4_6)
  have Fw5 := F1.same W5
  have Ef6 := E1.wr W5
  have Ff7 := F2.other W5 (Or.inr (slot_ne (Or.inr (hw _ (List.mem_of_getElem? (i := 25) rfl))) (Or.inr (hw _ (List.mem_of_getElem? (i := 23) rfl))) (by decide) (t := .byte) (t' := (.array .byte)) (by decide) (by decide)))
  have N5 := Fr.snoc X5 N0 g_a1
  have Z5 : n0 ≤ h5.size := Nat.le_trans Z0 (Keep.of_wr W5).1
  have Kp8 : Keep h0 h5 [a1] := (Keep.refl h0 [a1]).wr W5 (Or.inl (List.mem_of_getElem? (i := 0) rfl))
  have ac9 : ∀ t, Steps p.tables e below (T5.setTop (mkF m 9 #[.val (.ref a1), .val (.ref a2), .val (.int p3)] [])) t → Steps p.tables e below (s₁.setTop (entryFrame m #[(.ref a1), (.ref a2), (.int p3)] 3)) t := fun t k => ac4 t (st5 t k)
  have ac10 : ∀ t, Steps p.tables e below (T5.setTop (mkF m 11 #[.val (.ref a1), .val (.ref a2), .val (.int p3)] [(.int p3), (.ref a1)])) t → Steps p.tables e below (s₁.setTop (entryFrame m #[(.ref a1), (.ref a2), (.int p3)] 3)) t := fun t k => ac9 t (by
      show Steps p.tables e below (T5.setTop (mkF m 9 #[.val (.ref a1), .val (.ref a2), .val (.int p3)] [])) _
      refine XS.aloadN X5.here hx rfl (hb hby d4_9) rfl rfl ?_
      show Steps p.tables e below (T5.setTop (mkF m 10 #[.val (.ref a1), .val (.ref a2), .val (.int p3)] [(.ref a1)])) _
      refine XS.iloadN X5.here hx rfl (hb hby d4_10) rfl ?_
      exact k)
  obtain ⟨T11, h11, X11, e11, W11, st11⟩ := putFN X5 hx hZ hown (hw _ (List.mem_of_getElem? (i := 24) rfl)) Via.refl e5 Ff7 Ef6 (Or.inr ⟨(hw _ (List.mem_of_getElem? (i := 25) rfl)), rfl, hnm⟩) (hw _ (List.mem_of_getElem? (i := 11) rfl)) (ty := .byte) (v' := (.int (nar .byte p3))) (by decide) rfl (fits_nar_byte _) (g := (mkF m 11 #[.val (.ref a1), .val (.ref a2), .val (.int p3)] [(.int p3), (.ref a1)])) rfl rfl (hb hby d4_11)
  have Fw11 := Ff7.same W11
  have Ef12 := Ef6.wr W11
  have Ff13 := Fw5.other W11 (Or.inr (slot_ne (Or.inr (hw _ (List.mem_of_getElem? (i := 23) rfl))) (Or.inr (hw _ (List.mem_of_getElem? (i := 25) rfl))) (by decide) (t := (.array .byte)) (t' := .byte) (by decide) (by decide)))
  have N11 := Fr.snoc X11 N5 g_a1
  have Z11 : n0 ≤ h11.size := Nat.le_trans Z5 (Keep.of_wr W11).1
  have Kp14 : Keep h0 h11 [a1] := Kp8.wr W11 (Or.inl (List.mem_of_getElem? (i := 0) rfl))
  have ac15 : ∀ t, Steps p.tables e below (T11.setTop (mkF m 14 #[.val (.ref a1), .val (.ref a2), .val (.int p3)] [])) t → Steps p.tables e below (s₁.setTop (entryFrame m #[(.ref a1), (.ref a2), (.int p3)] 3)) t := fun t k => ac10 t (st11 t k)
  obtain ⟨fs, hr, hrun, hended, hW, hsame⟩ := X11.leave (v := none) (fun _ => rfl) (BodyLoose.notSynchronized Bd)
  refine ⟨_, _, ac15 _ ?_, hrun, hended, _, _, rfl, ?_, ⟨_, rfl⟩, hW, hsame.mono (by decide) (by decide)⟩
  · show Steps p.tables e below (T11.setTop (mkF m 14 #[.val (.ref a1), .val (.ref a2), .val (.int p3)] [])) _
    exact X11.returnOut hx Bd.returns (hb hby d4_14) hr
  · show Q4 Z a1 a2 p3 h0 n0 _ T11.heap _
    rw [e11]
    exact ⟨rfl, N11, Kp14⟩
theorem ef_rm1 (m : MethodId) (x0 : Int32) : entryFrame m #[(.int x0)] 1 = mkF m 0 #[.val (.int x0)] [] := by first | (simp [entryFrame, mkF, argsToLocals, Value.category]; done) | rfl
def Q1 (Z : State) (p1 : Int32) (cs : Int32) (h0 : Heap) (n0 : Nat) (v : Option Value) (h : Heap) (L : List Loc) : Prop := ∃ r : Addr, v = some (.ref r) ∧ Fr n0 L ∧ Keep h0 h []
set_option maxRecDepth 65536 in
set_option maxHeartbeats 40000000 in
theorem rm1 (l : Launch) (Z : State) (a0 : Array Value) (hw : ∀ d ∈ tables_1, d.before a0 Z = true) (ws : List Jvm.Cond) (p1 : Int32) (cs : Int32) (h0 : Heap) (n0 : Nat) (Z0 : n0 ≤ h0.size) (Sc : Sta Z h0 "java/lang/String" "COMPACT_STRINGS" "Z" (.int cs)) (hcs : ¬ cs = 0) (hp : ¬ (255 : Int32) < p1) :
    MetFree l (⟨"java/lang/String", "valueOf", "(C)Ljava/lang/String;"⟩ : MethodName) (head1 (Jvm.Cond.code (⟨"java/lang/String", "valueOf", "(C)Ljava/lang/String;"⟩ : MethodName) jdk_42_method_139_code 1 (some (.object "java/lang/String")) :: ws) ({ frames := 2, cells := 2, slots := 5, locals := 27 } : Room)) (fun a U => a = #[(.int p1)] ∧ Z.Warmed39 U.vm ∧ U.heap = h0) (fun _ _ _ _ _ => True) (fun _ U o U' => ∃ v L, o = .returned v ∧ Q1 Z p1 cs h0 n0 v U'.heap L ∧ FrameEnd U o U' L ({ frames := 2, cells := 2, slots := 5, locals := 27 } : Room).cells ({ frames := 2, cells := 2, slots := 5, locals := 27 } : Room).slots) := by
  refine MetFree.of_bodySF (plainFor_of_name pn_1) hisR ?_
  intro p e s m args below meth c s₁ Bd hml0 hP hK
  obtain ⟨rfl, hZ, hh⟩ := hP
  have hx := Bd.exec
  have hby := Bd.bytes
  have hml : c.maxLocals = 1 := hml0
  have hown : s.vm.findClass "java/lang/String" = some m.cls := findClass_of_methodNamed Bd.named
  have hnm := (name_of_methodNamed Bd.named Bd.method).1
  have X0 : Stand p l e ({ frames := 2, cells := 2, slots := 5, locals := 27 } : Room) s m #[(.int p1)] below meth c s₁ [] 0 0 := Stand.of_body Bd
  have e0 : s₁.heap = h0 := by rw [← hh, Bd.state]; rfl
  have N0 := Fr.nil n0
  have a0s : ∀ t, Steps p.tables e below (s₁.setTop (mkF m 0 #[.val (.int p1)] [])) t → Steps p.tables e below (s₁.setTop (entryFrame m #[(.int p1)] 1)) t := fun t k => castTop (ef_rm1 m p1) k
  obtain ⟨T1, X1, e1, st1⟩ := getS2 X0 hx hZ hown (host := "") (Or.inl (hw _ (List.mem_of_getElem? (i := 5) rfl))) Via.refl e0 Sc (g := (mkF m 0 #[.val (.int p1)] [])) rfl (hb hby d1_0)
  have ac2 : ∀ t, Steps p.tables e below (T1.setTop (mkF m 3 #[.val (.int p1)] [(.int cs)])) t → Steps p.tables e below (s₁.setTop (entryFrame m #[(.int p1)] 1)) t := fun t k => a0s t (st1 t k)
  have ac3 : ∀ t, Steps p.tables e below (T1.setTop (mkF m 7 #[.val (.int p1)] [(.int p1)])) t → Steps p.tables e below (s₁.setTop (entryFrame m #[(.int p1)] 1)) t := fun t k => ac2 t (by
      show Steps p.tables e below (T1.setTop (mkF m 3 #[.val (.int p1)] [(.int cs)])) _
      refine XS.ifNo X1.here hx rfl (hb hby d1_3) rfl ((if0 _ _).trans (feq hcs).1) ?_
      show Steps p.tables e below (T1.setTop (mkF m 6 #[.val (.int p1)] [])) _
      refine XS.iloadN X1.here hx rfl (hb hby d1_6) rfl ?_
      exact k)
  obtain ⟨_, _, ⟨T4, L4, k4, n4⟩, -, X4, ⟨Lc4, hQ4, l4, y4, z4⟩, st4⟩ := Jvm.LawKit.callS X1 hx (y := (⟨"java/lang/StringLatin1", "canEncode", "(C)Z"⟩ : MethodName)) hown (mvT hZ (hw _ (List.mem_of_getElem? (i := 6) rfl))) (mvT hZ (hw _ (List.mem_of_getElem? (i := 7) rfl))) (mvT hZ (hw _ (List.mem_of_getElem? (i := 8) rfl))) (mvT hZ (hw _ (List.mem_of_getElem? (i := 9) rfl))) (by decide) (backOf (W := 0) (rm2 l Z a0 hw [] p1  h0 n0 Z0 hp) hZ (hw _ (List.mem_of_getElem? (i := 9) rfl)) (hw _ (List.mem_of_getElem? (i := 8) rfl)) (by decide) (by decide)) (g := (mkF m 7 #[.val (.int p1)] [(.int p1)])) rfl (by rw [hml]; rfl) (argsL := [(.int p1)]) (rest := []) (lenOf pd_1 rfl) rfl (by show 2 * 0 + _ ≤ _; exact Nat.le_of_eq rfl) (hb hby d1_7) (fun _ _ => ⟨rfl, e1, (by decide : 0 + 0 ≤ _), (by decide : 0 + 0 ≤ _)⟩)
  dsimp only [Pt.U, Pt.locs, Pt.cells, Pt.slots] at X4 l4 y4 z4 st4 hQ4
  subst l4 y4 z4
  obtain ⟨rfl, N4q, Qe4⟩ := hQ4
  have N4 := Fr.app N0 N4q
  have ac5 : ∀ t, Steps p.tables e below (T4.setTop (mkF m 10 #[.val (.int p1)] [(.int (1 : Int32))])) t → Steps p.tables e below (s₁.setTop (entryFrame m #[(.int p1)] 1)) t := fun t k => ac3 t (st4 t k)
  have ac6 : ∀ t, Steps p.tables e below (T4.setTop (mkF m 13 #[.val (.int p1)] [])) t → Steps p.tables e below (s₁.setTop (entryFrame m #[(.int p1)] 1)) t := fun t k => ac5 t (by
      show Steps p.tables e below (T4.setTop (mkF m 10 #[.val (.int p1)] [(.int (1 : Int32))])) _
      refine XS.ifNo X4.here hx rfl (hb hby d1_10) rfl ((if0 _ _).trans (feq (by decide)).1) ?_
      exact k)
  obtain ⟨T7, h7, X7, e7, E7, A7, D7, -, st7⟩ := newO X4 hx hZ hown (hw _ (List.mem_of_getElem? (i := 10) rfl)) (hw _ (List.mem_of_getElem? (i := 11) rfl)) (hw _ (List.mem_of_getElem? (i := 3) rfl)) Qe4 (g := (mkF m 13 #[.val (.int p1)] [])) rfl (hb hby d1_13) (by decide) (by decide)
  obtain ⟨b7, g7⟩ : ∃ z, z = h0.size := ⟨_, rfl⟩
  rw [← g7] at A7 D7 st7
  have g_b7 : n0 ≤ b7 := Nat.le_trans Z0 (Nat.le_of_eq g7.symm)
  have sz_b7 : h0.size ≤ b7 := Nat.le_trans (Keep.refl h0 []).1 (Nat.le_of_eq g7.symm)
  have Z7 : n0 ≤ h7.size := Nat.le_trans Z0 E7.1
  have Kp8 : Keep h0 h7 [] := (Keep.refl h0 []).ext E7
  have F_value_b7 : Fld Z h7 b7 "java/lang/String" "value" "[B" .null := D7 (Or.inr (hw _ (List.mem_of_getElem? (i := 23) rfl))) (ty := (.array .byte)) (by decide)
  have F_coder_b7 : Fld Z h7 b7 "java/lang/String" "coder" "B" (.int (0 : Int32)) := D7 (Or.inr (hw _ (List.mem_of_getElem? (i := 25) rfl))) (ty := .byte) (by decide)
  have ac9 : ∀ t, Steps p.tables e below (T7.setTop (mkF m 16 #[.val (.int p1)] [(.ref b7)])) t → Steps p.tables e below (s₁.setTop (entryFrame m #[(.int p1)] 1)) t := fun t k => ac6 t (st7 t k)
  have ac10 : ∀ t, Steps p.tables e below (T7.setTop (mkF m 18 #[.val (.int p1)] [(.int p1), (.ref b7), (.ref b7)])) t → Steps p.tables e below (s₁.setTop (entryFrame m #[(.int p1)] 1)) t := fun t k => ac9 t (by
      show Steps p.tables e below (T7.setTop (mkF m 16 #[.val (.int p1)] [(.ref b7)])) _
      refine XS.dup X7.here hx rfl (hb hby d1_16) rfl rfl ?_
      show Steps p.tables e below (T7.setTop (mkF m 17 #[.val (.int p1)] [(.ref b7), (.ref b7)])) _
      refine XS.iloadN X7.here hx rfl (hb hby d1_17) rfl ?_
      exact k)
  obtain ⟨_, _, ⟨T11, L11, k11, n11⟩, -, X11, ⟨Lc11, hQ11, l11, y11, z11⟩, st11⟩ := Jvm.LawKit.callS X7 hx (y := (⟨"java/lang/StringLatin1", "toBytes", "(C)[B"⟩ : MethodName)) hown (mvT hZ (hw _ (List.mem_of_getElem? (i := 12) rfl))) (mvT hZ (hw _ (List.mem_of_getElem? (i := 13) rfl))) (mvT hZ (hw _ (List.mem_of_getElem? (i := 8) rfl))) (mvT hZ (hw _ (List.mem_of_getElem? (i := 14) rfl))) (by decide) (backOf (W := 2) (rm3 l Z a0 hw [] p1  h7 n0 Z7 ) hZ (hw _ (List.mem_of_getElem? (i := 14) rfl)) (hw _ (List.mem_of_getElem? (i := 8) rfl)) (by decide) (by decide)) (g := (mkF m 18 #[.val (.int p1)] [(.int p1), (.ref b7), (.ref b7)])) rfl (by rw [hml]; rfl) (argsL := [(.int p1)]) (rest := [(.ref b7), (.ref b7)]) (lenOf pd_2 rfl) rfl (by show 2 * 0 + _ ≤ _; exact Nat.le_of_eq rfl) (hb hby d1_18) (fun _ _ => ⟨rfl, e7, (by decide : 1 + 1 ≤ _), (by decide : 4 + 1 ≤ _)⟩)
  dsimp only [Pt.U, Pt.locs, Pt.cells, Pt.slots] at X11 l11 y11 z11 st11 hQ11
  subst l11 y11 z11
  obtain ⟨r11, rfl, N11q, K11q, sz11⟩ := hQ11
  have N11 := Fr.app N4 N11q
  have Ef12 := A7.keep K11q
  have Ff13 := F_value_b7.keep K11q nin0
  have Ff14 := F_coder_b7.keep K11q nin0
  have Z11 : n0 ≤ T11.heap.size := Nat.le_trans Z7 K11q.1
  have Kp15 : Keep h0 T11.heap [] := Kp8.trans K11q all0
  have ac16 : ∀ t, Steps p.tables e below (T11.setTop (mkF m 21 #[.val (.int p1)] [(.ref r11), (.ref b7), (.ref b7)])) t → Steps p.tables e below (s₁.setTop (entryFrame m #[(.int p1)] 1)) t := fun t k => ac10 t (st11 t k)
  have ac17 : ∀ t, Steps p.tables e below (T11.setTop (mkF m 22 #[.val (.int p1)] [(.int (0 : Int32)), (.ref r11), (.ref b7), (.ref b7)])) t → Steps p.tables e below (s₁.setTop (entryFrame m #[(.int p1)] 1)) t := fun t k => ac16 t (by
      show Steps p.tables e below (T11.setTop (mkF m 21 #[.val (.int p1)] [(.ref r11), (.ref b7), (.ref b7)])) _
      refine XS.iconst X11.here hx rfl (hb hby d1_21) ?_
      exact k)
  obtain ⟨_, _, ⟨T18, L18, k18, n18⟩, -, X18, ⟨Lc18, hQ18, l18, y18, z18⟩, st18⟩ := X11.specialBack hx (y := (⟨"java/lang/String", "<init>", "([BB)V"⟩ : MethodName)) rfl hown (mvT hZ (hw _ (List.mem_of_getElem? (i := 15) rfl))) (mvT hZ (hw _ (List.mem_of_getElem? (i := 16) rfl))) (mvT hZ (hw _ (List.mem_of_getElem? (i := 18) rfl))) (by decide) (backOf (W := 1) (rm4 l Z a0 hw [] b7 r11 (0 : Int32)  T11.heap n0 Z11 Ef12 g_b7 Ff13 Ff14) hZ (hw _ (List.mem_of_getElem? (i := 18) rfl)) (hw _ (List.mem_of_getElem? (i := 3) rfl)) (by decide) (by decide)) (g := (mkF m 22 #[.val (.int p1)] [(.int (0 : Int32)), (.ref r11), (.ref b7), (.ref b7)])) rfl (by rw [hml]; rfl) (Steps.refl _) (a := b7) (argsL := [(.ref r11), (.int (0 : Int32))]) (rest := [(.ref b7)]) (lenOf pd_3 rfl) rfl (by show 2 * 0 + _ ≤ _; exact Nat.le_of_eq rfl) (hb hby d1_22) (fun _ _ => ⟨rfl, rfl, (by decide : 2 + 0 ≤ _), (by decide : 5 + 0 ≤ _)⟩)
  dsimp only [Pt.U, Pt.locs, Pt.cells, Pt.slots] at X18 l18 y18 z18 st18 hQ18
  subst l18 y18 z18
  obtain ⟨rfl, N18q, K18q⟩ := hQ18
  have N18 := Fr.app N11 N18q
  have Ef19 := Ef12.keep K18q
  have Z18 : n0 ≤ T18.heap.size := Nat.le_trans Z11 K18q.1
  have Kp20 : Keep h0 T18.heap [] := Kp15.trans K18q (allS (Or.inr sz_b7) all0)
  have ac21 : ∀ t, Steps p.tables e below (T18.setTop (mkF m 25 #[.val (.int p1)] [(.ref b7)])) t → Steps p.tables e below (s₁.setTop (entryFrame m #[(.int p1)] 1)) t := fun t k => ac17 t (st18.trans k)
  obtain ⟨fs, hr, hrun, hended, hW, hsame⟩ := X18.leave (v := some (.ref b7)) (fun h => by rw [Bd.returns] at h; cases h) (BodyLoose.notSynchronized Bd)
  refine ⟨_, _, ac21 _ ?_, hrun, hended, _, _, rfl, ?_, ⟨_, rfl⟩, hW, hsame.mono (by decide) (by decide)⟩
  · show Steps p.tables e below (T18.setTop (mkF m 25 #[.val (.int p1)] [(.ref b7)])) _
    exact retOut X18 hx Bd.returns rfl (Or.inr (Or.inr (Or.inr (Or.inr ⟨rfl, rfl, rfl⟩)))) (hb hby d1_25) hr
  · show Q1 Z p1 cs h0 n0 _ T18.heap _
    exact ⟨b7, rfl, N18, Kp20⟩
theorem ef_rm7 (m : MethodId) (x0 : Addr) : entryFrame m #[(.ref x0)] 1 = mkF m 0 #[.val (.ref x0)] [] := by first | (simp [entryFrame, mkF, argsToLocals, Value.category]; done) | rfl
def Q7 (Z : State) (a1 : Addr) (nm : Addr) (h0 : Heap) (n0 : Nat) (v : Option Value) (h : Heap) (L : List Loc) : Prop := v = some (.ref nm) ∧ Fr n0 L ∧ h = h0
set_option maxRecDepth 65536 in
set_option maxHeartbeats 40000000 in
theorem rm7 (l : Launch) (Z : State) (a0 : Array Value) (hw : ∀ d ∈ tables_1, d.before a0 Z = true) (ws : List Jvm.Cond) (a1 : Addr) (nm : Addr) (h0 : Heap) (n0 : Nat) (Z0 : n0 ≤ h0.size) (F1 : Fld Z h0 a1 "com/example/votal/votal/log/Template" "mName" "Ljava/lang/String;" (.ref nm)) :
    MetFree l (⟨"com/example/votal/votal/log/Template", "getName", "()Ljava/lang/String;"⟩ : MethodName) (head1 (Jvm.Cond.code (⟨"com/example/votal/votal/log/Template", "getName", "()Ljava/lang/String;"⟩ : MethodName) prog_53_method_5_code 1 (some (.object "java/lang/String")) :: ws) ({ frames := 0, cells := 0, slots := 0, locals := 0 } : Room)) (fun a U => a = #[(.ref a1)] ∧ Z.Warmed39 U.vm ∧ U.heap = h0) (fun _ _ _ _ _ => True) (fun _ U o U' => ∃ v L, o = .returned v ∧ Q7 Z a1 nm h0 n0 v U'.heap L ∧ FrameEnd U o U' L ({ frames := 0, cells := 0, slots := 0, locals := 0 } : Room).cells ({ frames := 0, cells := 0, slots := 0, locals := 0 } : Room).slots) := by
  refine MetFree.of_bodySF (plainFor_of_name pn_7) hisR ?_
  intro p e s m args below meth c s₁ Bd hml0 hP hK
  obtain ⟨rfl, hZ, hh⟩ := hP
  have hx := Bd.exec
  have hby := Bd.bytes
  have hml : c.maxLocals = 1 := hml0
  have hown : s.vm.findClass "com/example/votal/votal/log/Template" = some m.cls := findClass_of_methodNamed Bd.named
  have hnm := (name_of_methodNamed Bd.named Bd.method).1
  have X0 : Stand p l e ({ frames := 0, cells := 0, slots := 0, locals := 0 } : Room) s m #[(.ref a1)] below meth c s₁ [] 0 0 := Stand.of_body Bd
  have e0 : s₁.heap = h0 := by rw [← hh, Bd.state]; rfl
  have N0 := Fr.nil n0
  have a0s : ∀ t, Steps p.tables e below (s₁.setTop (mkF m 0 #[.val (.ref a1)] [])) t → Steps p.tables e below (s₁.setTop (entryFrame m #[(.ref a1)] 1)) t := fun t k => castTop (ef_rm7 m a1) k
  have ac1 : ∀ t, Steps p.tables e below (s₁.setTop (mkF m 1 #[.val (.ref a1)] [(.ref a1)])) t → Steps p.tables e below (s₁.setTop (entryFrame m #[(.ref a1)] 1)) t := fun t k => a0s t (by
      show Steps p.tables e below (s₁.setTop (mkF m 0 #[.val (.ref a1)] [])) _
      refine XS.aloadN X0.here hx rfl (hb hby d7_0) rfl rfl ?_
      exact k)
  obtain ⟨T2, X2, e2, st2⟩ := getF X0 hx hZ hown (host := "") (Or.inl (hw _ (List.mem_of_getElem? (i := 45) rfl))) Via.refl e0 F1 (g := (mkF m 1 #[.val (.ref a1)] [(.ref a1)])) rfl rfl (hb hby d7_1)
  have ac3 : ∀ t, Steps p.tables e below (T2.setTop (mkF m 4 #[.val (.ref a1)] [(.ref nm)])) t → Steps p.tables e below (s₁.setTop (entryFrame m #[(.ref a1)] 1)) t := fun t k => ac1 t (st2 t k)
  obtain ⟨fs, hr, hrun, hended, hW, hsame⟩ := X2.leave (v := some (.ref nm)) (fun h => by rw [Bd.returns] at h; cases h) (BodyLoose.notSynchronized Bd)
  refine ⟨_, _, ac3 _ ?_, hrun, hended, _, _, rfl, ?_, ⟨_, rfl⟩, hW, hsame.mono (by decide) (by decide)⟩
  · show Steps p.tables e below (T2.setTop (mkF m 4 #[.val (.ref a1)] [(.ref nm)])) _
    exact retOut X2 hx Bd.returns rfl (Or.inr (Or.inr (Or.inr (Or.inr ⟨rfl, rfl, rfl⟩)))) (hb hby d7_4) hr
  · show Q7 Z a1 nm h0 n0 _ T2.heap _
    rw [e2]
    exact ⟨rfl, N0, rfl⟩
theorem ef_rm8 (m : MethodId) (x0 : Addr) : entryFrame m #[(.ref x0)] 6 = mkF m 0 #[.val (.ref x0), .unset, .unset, .unset, .unset, .unset] [] := by first | (simp [entryFrame, mkF, argsToLocals, Value.category]; done) | rfl
def Q8 (Z : State) (a1 : Addr) (n1 : Nat) (f : Nat → Value) (h0 : Heap) (n0 : Nat) (v : Option Value) (h : Heap) (L : List Loc) : Prop := ∃ r : Int32, v = some (.int r) ∧ Fr n0 L ∧ h = h0
set_option maxRecDepth 65536 in
set_option maxHeartbeats 40000000 in
theorem rm8 (l : Launch) (Z : State) (a0 : Array Value) (hw : ∀ d ∈ tables_1, d.before a0 Z = true) (ws : List Jvm.Cond) (a1 : Addr) (n1 : Nat) (f : Nat → Value) (h0 : Heap) (n0 : Nat) (Z0 : n0 ≤ h0.size) (V1 : own_Ar Z h0 a1 .byte n1 f) (hf : ∀ i, i < n1 → ∃ x : Int32, f i = .int x) (h1 : 1 ≤ n1) :
    MetFree l (⟨"com/example/votal/votal/log/LogRecord", "isZero", "([B)Z"⟩ : MethodName) (head1 (Jvm.Cond.code (⟨"com/example/votal/votal/log/LogRecord", "isZero", "([B)Z"⟩ : MethodName) prog_49_method_16_code 6 (some .boolean) :: ws) ({ frames := 0, cells := 0, slots := 0, locals := 0 } : Room)) (fun a U => a = #[(.ref a1)] ∧ Z.Warmed39 U.vm ∧ U.heap = h0) (fun _ _ _ _ _ => True) (fun _ U o U' => ∃ v L, o = .returned v ∧ Q8 Z a1 n1 f h0 n0 v U'.heap L ∧ FrameEnd U o U' L ({ frames := 0, cells := 0, slots := 0, locals := 0 } : Room).cells ({ frames := 0, cells := 0, slots := 0, locals := 0 } : Room).slots) := by
  refine MetFree.of_bodySF (plainFor_of_name pn_8) hisR ?_
  intro p e s m args below meth c s₁ Bd hml0 hP hK
  obtain ⟨rfl, hZ, hh⟩ := hP
  have hx := Bd.exec
  have hby := Bd.bytes
  have hml : c.maxLocals = 6 := hml0
  have hown : s.vm.findClass "com/example/votal/votal/log/LogRecord" = some m.cls := findClass_of_methodNamed Bd.named
  have hnm := (name_of_methodNamed Bd.named Bd.method).1
  have X0 : Stand p l e ({ frames := 0, cells := 0, slots := 0, locals := 0 } : Room) s m #[(.ref a1)] below meth c s₁ [] 0 0 := Stand.of_body Bd
  have e0 : s₁.heap = h0 := by rw [← hh, Bd.state]; rfl
  have N0 := Fr.nil n0
  have a0s : ∀ t, Steps p.tables e below (s₁.setTop (mkF m 0 #[.val (.ref a1), .unset, .unset, .unset, .unset, .unset] [])) t → Steps p.tables e below (s₁.setTop (entryFrame m #[(.ref a1)] 6)) t := fun t k => castTop (ef_rm8 m a1) k
  have ac1 : ∀ t, Steps p.tables e below (s₁.setTop (mkF m 5 #[.val (.ref a1), .val (.int (1 : Int32)), .val (.ref a1), .unset, .unset, .unset] [(.ref a1)])) t → Steps p.tables e below (s₁.setTop (entryFrame m #[(.ref a1)] 6)) t := fun t k => a0s t (by
      show Steps p.tables e below (s₁.setTop (mkF m 0 #[.val (.ref a1), .unset, .unset, .unset, .unset, .unset] [])) _
      refine XS.iconst X0.here hx rfl (hb hby d8_0) ?_
      show Steps p.tables e below (s₁.setTop (mkF m 1 #[.val (.ref a1), .unset, .unset, .unset, .unset, .unset] [(.int (1 : Int32))])) _
      refine XS.istoreN X0.here hx rfl (hb hby d8_1) rfl (l' := #[.val (.ref a1), .val (.int (1 : Int32)), .unset, .unset, .unset, .unset]) rfl ?_
      show Steps p.tables e below (s₁.setTop (mkF m 2 #[.val (.ref a1), .val (.int (1 : Int32)), .unset, .unset, .unset, .unset] [])) _
      refine XS.aloadN X0.here hx rfl (hb hby d8_2) rfl rfl ?_
      show Steps p.tables e below (s₁.setTop (mkF m 3 #[.val (.ref a1), .val (.int (1 : Int32)), .unset, .unset, .unset, .unset] [(.ref a1)])) _
      refine XS.astoreN X0.here hx rfl (hb hby d8_3) rfl rfl (l' := #[.val (.ref a1), .val (.int (1 : Int32)), .val (.ref a1), .unset, .unset, .unset]) rfl ?_
      show Steps p.tables e below (s₁.setTop (mkF m 4 #[.val (.ref a1), .val (.int (1 : Int32)), .val (.ref a1), .unset, .unset, .unset] [])) _
      refine XS.aloadN X0.here hx rfl (hb hby d8_4) rfl rfl ?_
      exact k)
  obtain ⟨cl2, Ac2, hl2, hb2⟩ := V1.len
  have hn1 := own_ofNat hb2
  obtain ⟨x0, hx0⟩ := hf 0 (by omega)
  have z0 : (0 : Int32).toInt = (0 : Nat) := rfl
  have ac3 : ∀ t, Steps p.tables e below (s₁.setTop (mkF m 19 #[.val (.ref a1), .val (.int (1 : Int32)), .val (.ref a1), .val (.int (Int32.ofNat n1)), .val (.int (0 : Int32)), .unset] [(.int (0 : Int32)), (.ref a1)])) t → Steps p.tables e below (s₁.setTop (entryFrame m #[(.ref a1)] 6)) t := fun t k => ac1 t (by
      show Steps p.tables e below (s₁.setTop (mkF m 5 #[.val (.ref a1), .val (.int (1 : Int32)), .val (.ref a1), .unset, .unset, .unset] [(.ref a1)])) _
      refine X0.arraylength hx (by rw [e0]; exact Ac2.1) (State.isArrayOf_alike hZ.alike Ac2.2.1) (g := (mkF m 5 #[.val (.ref a1), .val (.int (1 : Int32)), .val (.ref a1), .unset, .unset, .unset] [(.ref a1)])) rfl rfl (hb hby d8_5) _ ?_
      rw [hl2]
      show Steps p.tables e below (s₁.setTop (mkF m 6 #[.val (.ref a1), .val (.int (1 : Int32)), .val (.ref a1), .unset, .unset, .unset] [(.int (Int32.ofNat n1))])) _
      refine XS.istoreN X0.here hx rfl (hb hby d8_6) rfl (l' := #[.val (.ref a1), .val (.int (1 : Int32)), .val (.ref a1), .val (.int (Int32.ofNat n1)), .unset, .unset]) rfl ?_
      show Steps p.tables e below (s₁.setTop (mkF m 7 #[.val (.ref a1), .val (.int (1 : Int32)), .val (.ref a1), .val (.int (Int32.ofNat n1)), .unset, .unset] [])) _
      refine XS.iconst X0.here hx rfl (hb hby d8_7) ?_
      show Steps p.tables e below (s₁.setTop (mkF m 8 #[.val (.ref a1), .val (.int (1 : Int32)), .val (.ref a1), .val (.int (Int32.ofNat n1)), .unset, .unset] [(.int (0 : Int32))])) _
      refine XS.istore X0.here hx rfl (hb hby d8_8) rfl (l' := #[.val (.ref a1), .val (.int (1 : Int32)), .val (.ref a1), .val (.int (Int32.ofNat n1)), .val (.int (0 : Int32)), .unset]) rfl ?_
      show Steps p.tables e below (s₁.setTop (mkF m 10 #[.val (.ref a1), .val (.int (1 : Int32)), .val (.ref a1), .val (.int (Int32.ofNat n1)), .val (.int (0 : Int32)), .unset] [])) _
      refine XS.iload X0.here hx rfl (hb hby d8_10) rfl ?_
      show Steps p.tables e below (s₁.setTop (mkF m 12 #[.val (.ref a1), .val (.int (1 : Int32)), .val (.ref a1), .val (.int (Int32.ofNat n1)), .val (.int (0 : Int32)), .unset] [(.int (0 : Int32))])) _
      refine XS.iloadN X0.here hx rfl (hb hby d8_12) rfl ?_
      show Steps p.tables e below (s₁.setTop (mkF m 13 #[.val (.ref a1), .val (.int (1 : Int32)), .val (.ref a1), .val (.int (Int32.ofNat n1)), .val (.int (0 : Int32)), .unset] [(.int (Int32.ofNat n1)), (.int (0 : Int32))])) _
      refine XS.icmpNo X0.here hx rfl (hb hby d8_13) rfl (tlt (own_lt_of (by rw [hn1]; exact Int.ofNat_lt.mpr h1))).2.1 ?_
      show Steps p.tables e below (s₁.setTop (mkF m 16 #[.val (.ref a1), .val (.int (1 : Int32)), .val (.ref a1), .val (.int (Int32.ofNat n1)), .val (.int (0 : Int32)), .unset] [])) _
      refine XS.aloadN X0.here hx rfl (hb hby d8_16) rfl rfl ?_
      show Steps p.tables e below (s₁.setTop (mkF m 17 #[.val (.ref a1), .val (.int (1 : Int32)), .val (.ref a1), .val (.int (Int32.ofNat n1)), .val (.int (0 : Int32)), .unset] [(.ref a1)])) _
      refine XS.iload X0.here hx rfl (hb hby d8_17) rfl ?_
      exact k)
  obtain ⟨cl4, Ac4, hin4, hat4⟩ := V1.at (j := (0 : Int32)) (i := 0) z0 (by omega)
  have ac5 : ∀ t, Steps p.tables e below (s₁.setTop (mkF m 25 #[.val (.ref a1), .val (.int (1 : Int32)), .val (.ref a1), .val (.int (Int32.ofNat n1)), .val (.int (0 : Int32)), .val (.int x0)] [(.int x0), (.int (1 : Int32))])) t → Steps p.tables e below (s₁.setTop (entryFrame m #[(.ref a1)] 6)) t := fun t k => ac3 t (by
      show Steps p.tables e below (s₁.setTop (mkF m 19 #[.val (.ref a1), .val (.int (1 : Int32)), .val (.ref a1), .val (.int (Int32.ofNat n1)), .val (.int (0 : Int32)), .unset] [(.int (0 : Int32)), (.ref a1)])) _
      refine X0.baloadBytes hx (j := (0 : Int32)) (v := (.int x0)) (by rw [e0]; exact Ac4.1) (State.isArrayOf_alike hZ.alike Ac4.2.1) Ac4.2.2 hin4 (hat4.trans (congrArg some hx0)) (g := (mkF m 19 #[.val (.ref a1), .val (.int (1 : Int32)), .val (.ref a1), .val (.int (Int32.ofNat n1)), .val (.int (0 : Int32)), .unset] [(.int (0 : Int32)), (.ref a1)])) rfl rfl (hb hby d8_19) _ ?_
      show Steps p.tables e below (s₁.setTop (mkF m 20 #[.val (.ref a1), .val (.int (1 : Int32)), .val (.ref a1), .val (.int (Int32.ofNat n1)), .val (.int (0 : Int32)), .unset] [(.int x0)])) _
      refine XS.istore X0.here hx rfl (hb hby d8_20) rfl (l' := #[.val (.ref a1), .val (.int (1 : Int32)), .val (.ref a1), .val (.int (Int32.ofNat n1)), .val (.int (0 : Int32)), .val (.int x0)]) rfl ?_
      show Steps p.tables e below (s₁.setTop (mkF m 22 #[.val (.ref a1), .val (.int (1 : Int32)), .val (.ref a1), .val (.int (Int32.ofNat n1)), .val (.int (0 : Int32)), .val (.int x0)] [])) _
      refine XS.iloadN X0.here hx rfl (hb hby d8_22) rfl ?_
      show Steps p.tables e below (s₁.setTop (mkF m 23 #[.val (.ref a1), .val (.int (1 : Int32)), .val (.ref a1), .val (.int (Int32.ofNat n1)), .val (.int (0 : Int32)), .val (.int x0)] [(.int (1 : Int32))])) _
      refine XS.iload X0.here hx rfl (hb hby d8_23) rfl ?_
      exact k)
  have ac6 : ∀ t, Steps p.tables e below (s₁.setTop (mkF m 35 #[.val (.ref a1), .val (.int ((1 : Int32) &&& own_z x0)), .val (.ref a1), .val (.int (Int32.ofNat n1)), .val (.int (0 : Int32)), .val (.int x0)] [])) t → Steps p.tables e below (s₁.setTop (entryFrame m #[(.ref a1)] 6)) t := fun t k => ac5 t (by
      by_cases hz : x0 = (0 : Int32)
      ·
        show Steps p.tables e below (s₁.setTop (mkF m 25 #[.val (.ref a1), .val (.int (1 : Int32)), .val (.ref a1), .val (.int (Int32.ofNat n1)), .val (.int (0 : Int32)), .val (.int x0)] [(.int x0), (.int (1 : Int32))])) _
        refine XS.ifNo X0.here hx rfl (hb hby d8_25) rfl ((if0 _ _).trans (teq hz).2) ?_
        show Steps p.tables e below (s₁.setTop (mkF m 28 #[.val (.ref a1), .val (.int (1 : Int32)), .val (.ref a1), .val (.int (Int32.ofNat n1)), .val (.int (0 : Int32)), .val (.int x0)] [(.int (1 : Int32))])) _
        refine XS.iconst X0.here hx rfl (hb hby d8_28) ?_
        show Steps p.tables e below (s₁.setTop (mkF m 29 #[.val (.ref a1), .val (.int (1 : Int32)), .val (.ref a1), .val (.int (Int32.ofNat n1)), .val (.int (0 : Int32)), .val (.int x0)] [(.int (1 : Int32)), (.int (1 : Int32))])) _
        refine XS.goto X0.here hx rfl (pc0 := 29) (pc' := 33) rfl (hb hby d8_29) (by decide) (by decide) ?_
        show Steps p.tables e below (s₁.setTop (mkF m 33 #[.val (.ref a1), .val (.int (1 : Int32)), .val (.ref a1), .val (.int (Int32.ofNat n1)), .val (.int (0 : Int32)), .val (.int x0)] [(.int (1 : Int32)), (.int (1 : Int32))])) _
        refine XS.iand X0.here hx rfl (hb hby d8_33) rfl ?_
        show Steps p.tables e below (s₁.setTop (mkF m 34 #[.val (.ref a1), .val (.int (1 : Int32)), .val (.ref a1), .val (.int (Int32.ofNat n1)), .val (.int (0 : Int32)), .val (.int x0)] [(.int ((1 : Int32) &&& (1 : Int32)))])) _
        refine XS.istoreN X0.here hx rfl (hb hby d8_34) rfl (l' := #[.val (.ref a1), .val (.int ((1 : Int32) &&& (1 : Int32))), .val (.ref a1), .val (.int (Int32.ofNat n1)), .val (.int (0 : Int32)), .val (.int x0)]) rfl ?_
        rw [own_z_0 hz] at k; exact k
      ·
        show Steps p.tables e below (s₁.setTop (mkF m 25 #[.val (.ref a1), .val (.int (1 : Int32)), .val (.ref a1), .val (.int (Int32.ofNat n1)), .val (.int (0 : Int32)), .val (.int x0)] [(.int x0), (.int (1 : Int32))])) _
        refine XS.ifYes X0.here hx rfl (pc0 := 25) (pc' := 32) rfl (hb hby d8_25) rfl ((if0 _ _).trans (feq hz).2) (by decide) (by decide) ?_
        show Steps p.tables e below (s₁.setTop (mkF m 32 #[.val (.ref a1), .val (.int (1 : Int32)), .val (.ref a1), .val (.int (Int32.ofNat n1)), .val (.int (0 : Int32)), .val (.int x0)] [(.int (1 : Int32))])) _
        refine XS.iconst X0.here hx rfl (hb hby d8_32) ?_
        show Steps p.tables e below (s₁.setTop (mkF m 33 #[.val (.ref a1), .val (.int (1 : Int32)), .val (.ref a1), .val (.int (Int32.ofNat n1)), .val (.int (0 : Int32)), .val (.int x0)] [(.int (0 : Int32)), (.int (1 : Int32))])) _
        refine XS.iand X0.here hx rfl (hb hby d8_33) rfl ?_
        show Steps p.tables e below (s₁.setTop (mkF m 34 #[.val (.ref a1), .val (.int (1 : Int32)), .val (.ref a1), .val (.int (Int32.ofNat n1)), .val (.int (0 : Int32)), .val (.int x0)] [(.int ((1 : Int32) &&& (0 : Int32)))])) _
        refine XS.istoreN X0.here hx rfl (hb hby d8_34) rfl (l' := #[.val (.ref a1), .val (.int ((1 : Int32) &&& (0 : Int32))), .val (.ref a1), .val (.int (Int32.ofNat n1)), .val (.int (0 : Int32)), .val (.int x0)]) rfl ?_
        rw [own_z_1 hz] at k; exact k)
  have ac7 : ∀ t, Steps p.tables e below (s₁.setTop (mkF m 10 #[.val (.ref a1), .val (.int ((1 : Int32) &&& own_z x0)), .val (.ref a1), .val (.int (Int32.ofNat n1)), .val (.int ((0 : Int32) + (1 : Int32))), .val (.int x0)] [])) t → Steps p.tables e below (s₁.setTop (entryFrame m #[(.ref a1)] 6)) t := fun t k => ac6 t (by
      show Steps p.tables e below (s₁.setTop (mkF m 35 #[.val (.ref a1), .val (.int ((1 : Int32) &&& own_z x0)), .val (.ref a1), .val (.int (Int32.ofNat n1)), .val (.int (0 : Int32)), .val (.int x0)] [])) _
      refine XS.iinc X0.here hx rfl (hb hby d8_35) rfl (l' := #[.val (.ref a1), .val (.int ((1 : Int32) &&& own_z x0)), .val (.ref a1), .val (.int (Int32.ofNat n1)), .val (.int ((0 : Int32) + (1 : Int32))), .val (.int x0)]) rfl ?_
      show Steps p.tables e below (s₁.setTop (mkF m 38 #[.val (.ref a1), .val (.int ((1 : Int32) &&& own_z x0)), .val (.ref a1), .val (.int (Int32.ofNat n1)), .val (.int ((0 : Int32) + (1 : Int32))), .val (.int x0)] [])) _
      refine XS.goto X0.here hx rfl (pc0 := 38) (pc' := 10) rfl (hb hby d8_38) (by decide) (by decide) ?_
      exact k)
  have loop : ∀ (k : Nat) (r i y : Int32) (j : Nat), i.toInt = j → j + k = n1 → ∃ rE iE yE : Int32, ∀ t, Steps p.tables e below (s₁.setTop (mkF m 41 #[.val (.ref a1), .val (.int rE), .val (.ref a1), .val (.int (Int32.ofNat n1)), .val (.int iE), .val (.int yE)] [])) t → Steps p.tables e below (s₁.setTop (mkF m 10 #[.val (.ref a1), .val (.int r), .val (.ref a1), .val (.int (Int32.ofNat n1)), .val (.int i), .val (.int y)] [])) t := by
    intro k
    induction k with
    | zero =>
      intro r i y j hi hk
      have aL : ∀ t, Steps p.tables e below (s₁.setTop (mkF m 10 #[.val (.ref a1), .val (.int r), .val (.ref a1), .val (.int (Int32.ofNat n1)), .val (.int i), .val (.int y)] [])) t → Steps p.tables e below (s₁.setTop (mkF m 10 #[.val (.ref a1), .val (.int r), .val (.ref a1), .val (.int (Int32.ofNat n1)), .val (.int i), .val (.int y)] [])) t := fun t k => k
      have ac8 : ∀ t, Steps p.tables e below (s₁.setTop (mkF m 41 #[.val (.ref a1), .val (.int r), .val (.ref a1), .val (.int (Int32.ofNat n1)), .val (.int i), .val (.int y)] [])) t → Steps p.tables e below (s₁.setTop (mkF m 10 #[.val (.ref a1), .val (.int r), .val (.ref a1), .val (.int (Int32.ofNat n1)), .val (.int i), .val (.int y)] [])) t := fun t k => aL t (by
          show Steps p.tables e below (s₁.setTop (mkF m 10 #[.val (.ref a1), .val (.int r), .val (.ref a1), .val (.int (Int32.ofNat n1)), .val (.int i), .val (.int y)] [])) _
          refine XS.iload X0.here hx rfl (hb hby d8_10) rfl ?_
          show Steps p.tables e below (s₁.setTop (mkF m 12 #[.val (.ref a1), .val (.int r), .val (.ref a1), .val (.int (Int32.ofNat n1)), .val (.int i), .val (.int y)] [(.int i)])) _
          refine XS.iloadN X0.here hx rfl (hb hby d8_12) rfl ?_
          show Steps p.tables e below (s₁.setTop (mkF m 13 #[.val (.ref a1), .val (.int r), .val (.ref a1), .val (.int (Int32.ofNat n1)), .val (.int i), .val (.int y)] [(.int (Int32.ofNat n1)), (.int i)])) _
          refine XS.icmpYes X0.here hx rfl (pc0 := 13) (pc' := 41) rfl (hb hby d8_13) rfl (flt (own_nlt_of (by omega))).2.1 (by decide) (by decide) ?_
          exact k)
      exact ⟨r, i, y, ac8⟩
    | succ k ih =>
      intro r i y j hi hk
      have aL : ∀ t, Steps p.tables e below (s₁.setTop (mkF m 10 #[.val (.ref a1), .val (.int r), .val (.ref a1), .val (.int (Int32.ofNat n1)), .val (.int i), .val (.int y)] [])) t → Steps p.tables e below (s₁.setTop (mkF m 10 #[.val (.ref a1), .val (.int r), .val (.ref a1), .val (.int (Int32.ofNat n1)), .val (.int i), .val (.int y)] [])) t := fun t k => k
      obtain ⟨xj, hxj⟩ := hf j (by omega)
      have ac9 : ∀ t, Steps p.tables e below (s₁.setTop (mkF m 19 #[.val (.ref a1), .val (.int r), .val (.ref a1), .val (.int (Int32.ofNat n1)), .val (.int i), .val (.int y)] [(.int i), (.ref a1)])) t → Steps p.tables e below (s₁.setTop (mkF m 10 #[.val (.ref a1), .val (.int r), .val (.ref a1), .val (.int (Int32.ofNat n1)), .val (.int i), .val (.int y)] [])) t := fun t k => aL t (by
          show Steps p.tables e below (s₁.setTop (mkF m 10 #[.val (.ref a1), .val (.int r), .val (.ref a1), .val (.int (Int32.ofNat n1)), .val (.int i), .val (.int y)] [])) _
          refine XS.iload X0.here hx rfl (hb hby d8_10) rfl ?_
          show Steps p.tables e below (s₁.setTop (mkF m 12 #[.val (.ref a1), .val (.int r), .val (.ref a1), .val (.int (Int32.ofNat n1)), .val (.int i), .val (.int y)] [(.int i)])) _
          refine XS.iloadN X0.here hx rfl (hb hby d8_12) rfl ?_
          show Steps p.tables e below (s₁.setTop (mkF m 13 #[.val (.ref a1), .val (.int r), .val (.ref a1), .val (.int (Int32.ofNat n1)), .val (.int i), .val (.int y)] [(.int (Int32.ofNat n1)), (.int i)])) _
          refine XS.icmpNo X0.here hx rfl (hb hby d8_13) rfl (tlt (own_lt_of (by omega))).2.1 ?_
          show Steps p.tables e below (s₁.setTop (mkF m 16 #[.val (.ref a1), .val (.int r), .val (.ref a1), .val (.int (Int32.ofNat n1)), .val (.int i), .val (.int y)] [])) _
          refine XS.aloadN X0.here hx rfl (hb hby d8_16) rfl rfl ?_
          show Steps p.tables e below (s₁.setTop (mkF m 17 #[.val (.ref a1), .val (.int r), .val (.ref a1), .val (.int (Int32.ofNat n1)), .val (.int i), .val (.int y)] [(.ref a1)])) _
          refine XS.iload X0.here hx rfl (hb hby d8_17) rfl ?_
          exact k)
      obtain ⟨cl10, Ac10, hin10, hat10⟩ := V1.at (j := i) (i := j) hi (by omega)
      have ac11 : ∀ t, Steps p.tables e below (s₁.setTop (mkF m 25 #[.val (.ref a1), .val (.int r), .val (.ref a1), .val (.int (Int32.ofNat n1)), .val (.int i), .val (.int xj)] [(.int xj), (.int r)])) t → Steps p.tables e below (s₁.setTop (mkF m 10 #[.val (.ref a1), .val (.int r), .val (.ref a1), .val (.int (Int32.ofNat n1)), .val (.int i), .val (.int y)] [])) t := fun t k => ac9 t (by
          show Steps p.tables e below (s₁.setTop (mkF m 19 #[.val (.ref a1), .val (.int r), .val (.ref a1), .val (.int (Int32.ofNat n1)), .val (.int i), .val (.int y)] [(.int i), (.ref a1)])) _
          refine X0.baloadBytes hx (j := i) (v := (.int xj)) (by rw [e0]; exact Ac10.1) (State.isArrayOf_alike hZ.alike Ac10.2.1) Ac10.2.2 hin10 (hat10.trans (congrArg some hxj)) (g := (mkF m 19 #[.val (.ref a1), .val (.int r), .val (.ref a1), .val (.int (Int32.ofNat n1)), .val (.int i), .val (.int y)] [(.int i), (.ref a1)])) rfl rfl (hb hby d8_19) _ ?_
          show Steps p.tables e below (s₁.setTop (mkF m 20 #[.val (.ref a1), .val (.int r), .val (.ref a1), .val (.int (Int32.ofNat n1)), .val (.int i), .val (.int y)] [(.int xj)])) _
          refine XS.istore X0.here hx rfl (hb hby d8_20) rfl (l' := #[.val (.ref a1), .val (.int r), .val (.ref a1), .val (.int (Int32.ofNat n1)), .val (.int i), .val (.int xj)]) rfl ?_
          show Steps p.tables e below (s₁.setTop (mkF m 22 #[.val (.ref a1), .val (.int r), .val (.ref a1), .val (.int (Int32.ofNat n1)), .val (.int i), .val (.int xj)] [])) _
          refine XS.iloadN X0.here hx rfl (hb hby d8_22) rfl ?_
          show Steps p.tables e below (s₁.setTop (mkF m 23 #[.val (.ref a1), .val (.int r), .val (.ref a1), .val (.int (Int32.ofNat n1)), .val (.int i), .val (.int xj)] [(.int r)])) _
          refine XS.iload X0.here hx rfl (hb hby d8_23) rfl ?_
          exact k)
      have ac12 : ∀ t, Steps p.tables e below (s₁.setTop (mkF m 35 #[.val (.ref a1), .val (.int (r &&& own_z xj)), .val (.ref a1), .val (.int (Int32.ofNat n1)), .val (.int i), .val (.int xj)] [])) t → Steps p.tables e below (s₁.setTop (mkF m 10 #[.val (.ref a1), .val (.int r), .val (.ref a1), .val (.int (Int32.ofNat n1)), .val (.int i), .val (.int y)] [])) t := fun t k => ac11 t (by
          by_cases hz : xj = (0 : Int32)
          ·
            show Steps p.tables e below (s₁.setTop (mkF m 25 #[.val (.ref a1), .val (.int r), .val (.ref a1), .val (.int (Int32.ofNat n1)), .val (.int i), .val (.int xj)] [(.int xj), (.int r)])) _
            refine XS.ifNo X0.here hx rfl (hb hby d8_25) rfl ((if0 _ _).trans (teq hz).2) ?_
            show Steps p.tables e below (s₁.setTop (mkF m 28 #[.val (.ref a1), .val (.int r), .val (.ref a1), .val (.int (Int32.ofNat n1)), .val (.int i), .val (.int xj)] [(.int r)])) _
            refine XS.iconst X0.here hx rfl (hb hby d8_28) ?_
            show Steps p.tables e below (s₁.setTop (mkF m 29 #[.val (.ref a1), .val (.int r), .val (.ref a1), .val (.int (Int32.ofNat n1)), .val (.int i), .val (.int xj)] [(.int (1 : Int32)), (.int r)])) _
            refine XS.goto X0.here hx rfl (pc0 := 29) (pc' := 33) rfl (hb hby d8_29) (by decide) (by decide) ?_
            show Steps p.tables e below (s₁.setTop (mkF m 33 #[.val (.ref a1), .val (.int r), .val (.ref a1), .val (.int (Int32.ofNat n1)), .val (.int i), .val (.int xj)] [(.int (1 : Int32)), (.int r)])) _
            refine XS.iand X0.here hx rfl (hb hby d8_33) rfl ?_
            show Steps p.tables e below (s₁.setTop (mkF m 34 #[.val (.ref a1), .val (.int r), .val (.ref a1), .val (.int (Int32.ofNat n1)), .val (.int i), .val (.int xj)] [(.int (r &&& (1 : Int32)))])) _
            refine XS.istoreN X0.here hx rfl (hb hby d8_34) rfl (l' := #[.val (.ref a1), .val (.int (r &&& (1 : Int32))), .val (.ref a1), .val (.int (Int32.ofNat n1)), .val (.int i), .val (.int xj)]) rfl ?_
            rw [own_z_0 hz] at k; exact k
          ·
            show Steps p.tables e below (s₁.setTop (mkF m 25 #[.val (.ref a1), .val (.int r), .val (.ref a1), .val (.int (Int32.ofNat n1)), .val (.int i), .val (.int xj)] [(.int xj), (.int r)])) _
            refine XS.ifYes X0.here hx rfl (pc0 := 25) (pc' := 32) rfl (hb hby d8_25) rfl ((if0 _ _).trans (feq hz).2) (by decide) (by decide) ?_
            show Steps p.tables e below (s₁.setTop (mkF m 32 #[.val (.ref a1), .val (.int r), .val (.ref a1), .val (.int (Int32.ofNat n1)), .val (.int i), .val (.int xj)] [(.int r)])) _
            refine XS.iconst X0.here hx rfl (hb hby d8_32) ?_
            show Steps p.tables e below (s₁.setTop (mkF m 33 #[.val (.ref a1), .val (.int r), .val (.ref a1), .val (.int (Int32.ofNat n1)), .val (.int i), .val (.int xj)] [(.int (0 : Int32)), (.int r)])) _
            refine XS.iand X0.here hx rfl (hb hby d8_33) rfl ?_
            show Steps p.tables e below (s₁.setTop (mkF m 34 #[.val (.ref a1), .val (.int r), .val (.ref a1), .val (.int (Int32.ofNat n1)), .val (.int i), .val (.int xj)] [(.int (r &&& (0 : Int32)))])) _
            refine XS.istoreN X0.here hx rfl (hb hby d8_34) rfl (l' := #[.val (.ref a1), .val (.int (r &&& (0 : Int32))), .val (.ref a1), .val (.int (Int32.ofNat n1)), .val (.int i), .val (.int xj)]) rfl ?_
            rw [own_z_1 hz] at k; exact k)
      have ac13 : ∀ t, Steps p.tables e below (s₁.setTop (mkF m 10 #[.val (.ref a1), .val (.int (r &&& own_z xj)), .val (.ref a1), .val (.int (Int32.ofNat n1)), .val (.int (i + (1 : Int32))), .val (.int xj)] [])) t → Steps p.tables e below (s₁.setTop (mkF m 10 #[.val (.ref a1), .val (.int r), .val (.ref a1), .val (.int (Int32.ofNat n1)), .val (.int i), .val (.int y)] [])) t := fun t k => ac12 t (by
          show Steps p.tables e below (s₁.setTop (mkF m 35 #[.val (.ref a1), .val (.int (r &&& own_z xj)), .val (.ref a1), .val (.int (Int32.ofNat n1)), .val (.int i), .val (.int xj)] [])) _
          refine XS.iinc X0.here hx rfl (hb hby d8_35) rfl (l' := #[.val (.ref a1), .val (.int (r &&& own_z xj)), .val (.ref a1), .val (.int (Int32.ofNat n1)), .val (.int (i + (1 : Int32))), .val (.int xj)]) rfl ?_
          show Steps p.tables e below (s₁.setTop (mkF m 38 #[.val (.ref a1), .val (.int (r &&& own_z xj)), .val (.ref a1), .val (.int (Int32.ofNat n1)), .val (.int (i + (1 : Int32))), .val (.int xj)] [])) _
          refine XS.goto X0.here hx rfl (pc0 := 38) (pc' := 10) rfl (hb hby d8_38) (by decide) (by decide) ?_
          exact k)
      obtain ⟨rE, iE, yE, hE⟩ := ih _ (i + (1 : Int32)) xj (j + 1) (own_inc hi (by omega) hb2) (by omega)
      exact ⟨rE, iE, yE, fun t k => ac13 t (hE t k)⟩
  obtain ⟨rE, iE, yE, hE14⟩ := loop (n1 - 1) _ ((0 : Int32) + (1 : Int32)) x0 1 (by decide) (by omega)
  have ac15 : ∀ t, Steps p.tables e below (s₁.setTop (mkF m 41 #[.val (.ref a1), .val (.int rE), .val (.ref a1), .val (.int (Int32.ofNat n1)), .val (.int iE), .val (.int yE)] [])) t → Steps p.tables e below (s₁.setTop (entryFrame m #[(.ref a1)] 6)) t := fun t k => ac7 t (hE14 t k)
  have ac16 : ∀ t, Steps p.tables e below (s₁.setTop (mkF m 42 #[.val (.ref a1), .val (.int rE), .val (.ref a1), .val (.int (Int32.ofNat n1)), .val (.int iE), .val (.int yE)] [(.int rE)])) t → Steps p.tables e below (s₁.setTop (entryFrame m #[(.ref a1)] 6)) t := fun t k => ac15 t (by
      show Steps p.tables e below (s₁.setTop (mkF m 41 #[.val (.ref a1), .val (.int rE), .val (.ref a1), .val (.int (Int32.ofNat n1)), .val (.int iE), .val (.int yE)] [])) _
      refine XS.iloadN X0.here hx rfl (hb hby d8_41) rfl ?_
      exact k)
  obtain ⟨fs, hr, hrun, hended, hW, hsame⟩ := X0.leave (v := some (.int (nar .boolean rE))) (fun h => by rw [Bd.returns] at h; cases h) (BodyLoose.notSynchronized Bd)
  refine ⟨_, _, ac16 _ ?_, hrun, hended, _, _, rfl, ?_, ⟨_, rfl⟩, hW, hsame.mono (by decide) (by decide)⟩
  · show Steps p.tables e below (s₁.setTop (mkF m 42 #[.val (.ref a1), .val (.int rE), .val (.ref a1), .val (.int (Int32.ofNat n1)), .val (.int iE), .val (.int yE)] [(.int rE)])) _
    exact retN X0 hx (t := .boolean) Bd.returns (by simp) (hb hby d8_42) hr
  · show Q8 Z a1 n1 f h0 n0 _ s₁.heap _
    rw [e0]
    exact ⟨_, rfl, N0, rfl⟩
theorem ef_rm6 (m : MethodId) (x0 : Addr) (x1 : Int32) (x2 : Addr) (x3 : Addr) (x5 : Addr) (x6 : Addr) (x7 : Int32) (x8 : Addr) : entryFrame m #[(.ref x0), (.int x1), (.ref x2), (.ref x3), .null, (.ref x5), (.ref x6), (.int x7), (.ref x8)] 9 = mkF m 0 #[.val (.ref x0), .val (.int x1), .val (.ref x2), .val (.ref x3), .val .null, .val (.ref x5), .val (.ref x6), .val (.int x7), .val (.ref x8)] [] := by first | (simp [entryFrame, mkF, argsToLocals, Value.category]; done) | rfl
def Q6 (Z : State) (a1 : Addr) (p2 : Int32) (a3 : Addr) (a4 : Addr) (a6 : Addr) (a7 : Addr) (p8 : Int32) (a9 : Addr) (n1 : Nat) (f : Nat → Value) (nm : Addr) (h0 : Heap) (n0 : Nat) (v : Option Value) (h : Heap) (L : List Loc) : Prop := v = none ∧ Fr n0 L ∧ Keep h0 h [a1] ∧ Exa Z h a1 "com/example/votal/votal/log/LogRecord" ∧ Fld Z h a1 "com/example/votal/votal/log/LogRecord" "mDigest" "[B" (.ref a6)
set_option maxRecDepth 65536 in
set_option maxHeartbeats 40000000 in
theorem rm6 (l : Launch) (Z : State) (a0 : Array Value) (hw : ∀ d ∈ tables_1, d.before a0 Z = true) (ws : List Jvm.Cond) (a1 : Addr) (p2 : Int32) (a3 : Addr) (a4 : Addr) (a6 : Addr) (a7 : Addr) (p8 : Int32) (a9 : Addr) (n1 : Nat) (f : Nat → Value) (nm : Addr) (h0 : Heap) (n0 : Nat) (Z0 : n0 ≤ h0.size) (E1 : Exa Z h0 a1 "com/example/votal/votal/log/LogRecord") (g_a1 : n0 ≤ a1) (V3 : own_Ar Z h0 a3 .byte n1 f) (hf : ∀ i, i < n1 → ∃ x : Int32, f i = .int x) (h1 : 1 ≤ n1) (ne_a3_a1 : a3 ≠ a1) (F_mPcr : Fld Z h0 a1 "com/example/votal/votal/log/LogRecord" "mPcr" "I" (.int 0)) (F_mTemplateDigest : Fld Z h0 a1 "com/example/votal/votal/log/LogRecord" "mTemplateDigest" "[B" .null) (F_mTemplateName : Fld Z h0 a1 "com/example/votal/votal/log/LogRecord" "mTemplateName" "Ljava/lang/String;" .null) (F_mTemplate : Fld Z h0 a1 "com/example/votal/votal/log/LogRecord" "mTemplate" "Lcom/example/votal/votal/log/Template;" .null) (F_mName : Fld Z h0 a1 "com/example/votal/votal/log/LogRecord" "mName" "Ljava/lang/String;" .null) (F_mDigestAlgorithm : Fld Z h0 a1 "com/example/votal/votal/log/LogRecord" "mDigestAlgorithm" "Lcom/example/votal/votal/log/DigestAlgorithm;" .null) (F_mDigest : Fld Z h0 a1 "com/example/votal/votal/log/LogRecord" "mDigest" "[B" .null) (F_mEventDataOffset : Fld Z h0 a1 "com/example/votal/votal/log/LogRecord" "mEventDataOffset" "I" (.int 0)) (F_mTemplateData : Fld Z h0 a1 "com/example/votal/votal/log/LogRecord" "mTemplateData" "[B" .null) (F_mViolation : Fld Z h0 a1 "com/example/votal/votal/log/LogRecord" "mViolation" "Z" (.int 0)) (E4 : Exa Z h0 a4 "com/example/votal/votal/log/Template") (F4 : Fld Z h0 a4 "com/example/votal/votal/log/Template" "mName" "Ljava/lang/String;" (.ref nm)) (ne_a4_a1 : a4 ≠ a1) :
    MetFree l (⟨"com/example/votal/votal/log/LogRecord", "<init>", "(I[BLcom/example/votal/votal/log/Template;Lcom/example/votal/votal/log/DigestAlgorithm;[BLjava/lang/String;I[B)V"⟩ : MethodName) (head1 (Jvm.Cond.code (⟨"com/example/votal/votal/log/LogRecord", "<init>", "(I[BLcom/example/votal/votal/log/Template;Lcom/example/votal/votal/log/DigestAlgorithm;[BLjava/lang/String;I[B)V"⟩ : MethodName) prog_49_method_1_code 9 none :: ws) ({ frames := 1, cells := 0, slots := 0, locals := 18 } : Room)) (fun a U => a = #[(.ref a1), (.int p2), (.ref a3), (.ref a4), .null, (.ref a6), (.ref a7), (.int p8), (.ref a9)] ∧ Z.Warmed39 U.vm ∧ U.heap = h0) (fun _ _ _ _ _ => True) (fun _ U o U' => ∃ v L, o = .returned v ∧ Q6 Z a1 p2 a3 a4 a6 a7 p8 a9 n1 f nm h0 n0 v U'.heap L ∧ FrameEnd U o U' L ({ frames := 1, cells := 0, slots := 0, locals := 18 } : Room).cells ({ frames := 1, cells := 0, slots := 0, locals := 18 } : Room).slots) := by
  refine MetFree.of_bodySF (plainFor_of_name pn_6) hisR ?_
  intro p e s m args below meth c s₁ Bd hml0 hP hK
  obtain ⟨rfl, hZ, hh⟩ := hP
  have hx := Bd.exec
  have hby := Bd.bytes
  have hml : c.maxLocals = 9 := hml0
  have hown : s.vm.findClass "com/example/votal/votal/log/LogRecord" = some m.cls := findClass_of_methodNamed Bd.named
  have hnm := (name_of_methodNamed Bd.named Bd.method).1
  have X0 : Stand p l e ({ frames := 1, cells := 0, slots := 0, locals := 18 } : Room) s m #[(.ref a1), (.int p2), (.ref a3), (.ref a4), .null, (.ref a6), (.ref a7), (.int p8), (.ref a9)] below meth c s₁ [] 0 0 := Stand.of_body Bd
  have e0 : s₁.heap = h0 := by rw [← hh, Bd.state]; rfl
  have N0 := Fr.nil n0
  have a0s : ∀ t, Steps p.tables e below (s₁.setTop (mkF m 0 #[.val (.ref a1), .val (.int p2), .val (.ref a3), .val (.ref a4), .val .null, .val (.ref a6), .val (.ref a7), .val (.int p8), .val (.ref a9)] [])) t → Steps p.tables e below (s₁.setTop (entryFrame m #[(.ref a1), (.int p2), (.ref a3), (.ref a4), .null, (.ref a6), (.ref a7), (.int p8), (.ref a9)] 9)) t := fun t k => castTop (ef_rm6 m a1 p2 a3 a4 a6 a7 p8 a9) k
  have ac1 : ∀ t, Steps p.tables e below (s₁.setTop (mkF m 1 #[.val (.ref a1), .val (.int p2), .val (.ref a3), .val (.ref a4), .val .null, .val (.ref a6), .val (.ref a7), .val (.int p8), .val (.ref a9)] [(.ref a1)])) t → Steps p.tables e below (s₁.setTop (entryFrame m #[(.ref a1), (.int p2), (.ref a3), (.ref a4), .null, (.ref a6), (.ref a7), (.int p8), (.ref a9)] 9)) t := fun t k => a0s t (by
      show Steps p.tables e below (s₁.setTop (mkF m 0 #[.val (.ref a1), .val (.int p2), .val (.ref a3), .val (.ref a4), .val .null, .val (.ref a6), .val (.ref a7), .val (.int p8), .val (.ref a9)] [])) _
      refine XS.aloadN X0.here hx rfl (hb hby d6_0) rfl rfl ?_
      exact k)
  obtain ⟨T2, X2, e2, st2⟩ := initO X0 hx hZ hown (hw _ (List.mem_of_getElem? (i := 35) rfl)) (hw _ (List.mem_of_getElem? (i := 20) rfl)) (hw _ (List.mem_of_getElem? (i := 21) rfl)) e0 (g := (mkF m 1 #[.val (.ref a1), .val (.int p2), .val (.ref a3), .val (.ref a4), .val .null, .val (.ref a6), .val (.ref a7), .val (.int p8), .val (.ref a9)] [(.ref a1)])) rfl (by rw [hml]; rfl) rfl (hb hby d6_1) (by decide) (W := 0) (by show 2 * 0 + _ ≤ _; exact Nat.le_of_eq rfl) (by decide)
  have ac3 : ∀ t, Steps p.tables e below (T2.setTop (mkF m 4 #[.val (.ref a1), .val (.int p2), .val (.ref a3), .val (.ref a4), .val .null, .val (.ref a6), .val (.ref a7), .val (.int p8), .val (.ref a9)] [])) t → Steps p.tables e below (s₁.setTop (entryFrame m #[(.ref a1), (.int p2), (.ref a3), (.ref a4), .null, (.ref a6), (.ref a7), (.int p8), (.ref a9)] 9)) t := fun t k => ac1 t (st2 t k)
  have ac4 : ∀ t, Steps p.tables e below (T2.setTop (mkF m 6 #[.val (.ref a1), .val (.int p2), .val (.ref a3), .val (.ref a4), .val .null, .val (.ref a6), .val (.ref a7), .val (.int p8), .val (.ref a9)] [(.int p2), (.ref a1)])) t → Steps p.tables e below (s₁.setTop (entryFrame m #[(.ref a1), (.int p2), (.ref a3), (.ref a4), .null, (.ref a6), (.ref a7), (.int p8), (.ref a9)] 9)) t := fun t k => ac3 t (by
      show Steps p.tables e below (T2.setTop (mkF m 4 #[.val (.ref a1), .val (.int p2), .val (.ref a3), .val (.ref a4), .val .null, .val (.ref a6), .val (.ref a7), .val (.int p8), .val (.ref a9)] [])) _
      refine XS.aloadN X2.here hx rfl (hb hby d6_4) rfl rfl ?_
      show Steps p.tables e below (T2.setTop (mkF m 5 #[.val (.ref a1), .val (.int p2), .val (.ref a3), .val (.ref a4), .val .null, .val (.ref a6), .val (.ref a7), .val (.int p8), .val (.ref a9)] [(.ref a1)])) _
      refine XS.iloadN X2.here hx rfl (hb hby d6_5) rfl ?_
      exact k)
  obtain ⟨T5, h5, X5, e5, W5, st5⟩ := putF X2 hx hZ hown (host := "") (Or.inl (hw _ (List.mem_of_getElem? (i := 36) rfl))) Via.refl e2 F_mPcr E1 (Or.inr ⟨(hw _ (List.mem_of_getElem? (i := 37) rfl)), rfl, hnm⟩) (hw _ (List.mem_of_getElem? (i := 30) rfl)) (ty := .int) (by decide) rfl rfl (g := (mkF m 6 #[.val (.ref a1), .val (.int p2), .val (.ref a3), .val (.ref a4), .val .null, .val (.ref a6), .val (.ref a7), .val (.int p8), .val (.ref a9)] [(.int p2), (.ref a1)])) rfl rfl (hb hby d6_6)
  have Fw5 := F_mPcr.same W5
  have Ef6 := E1.wr W5
  have Vf7 := V3.other W5 ne_a3_a1
  have Ff8 := F_mTemplateDigest.other W5 (Or.inr (slot_ne (Or.inr (hw _ (List.mem_of_getElem? (i := 39) rfl))) (Or.inr (hw _ (List.mem_of_getElem? (i := 37) rfl))) (by decide) (t := (.array .byte)) (t' := .int) (by decide) (by decide)))
  have Ff9 := F_mTemplateName.other W5 (Or.inr (slot_ne (Or.inr (hw _ (List.mem_of_getElem? (i := 48) rfl))) (Or.inr (hw _ (List.mem_of_getElem? (i := 37) rfl))) (by decide) (t := (.object "java/lang/String")) (t' := .int) (by decide) (by decide)))
  have Ff10 := F_mTemplate.other W5 (Or.inr (slot_ne (Or.inr (hw _ (List.mem_of_getElem? (i := 50) rfl))) (Or.inr (hw _ (List.mem_of_getElem? (i := 37) rfl))) (by decide) (t := (.object "com/example/votal/votal/log/Template")) (t' := .int) (by decide) (by decide)))
  have Ff11 := F_mName.other W5 (Or.inr (slot_ne (Or.inr (hw _ (List.mem_of_getElem? (i := 52) rfl))) (Or.inr (hw _ (List.mem_of_getElem? (i := 37) rfl))) (by decide) (t := (.object "java/lang/String")) (t' := .int) (by decide) (by decide)))
  have Ff12 := F_mDigestAlgorithm.other W5 (Or.inr (slot_ne (Or.inr (hw _ (List.mem_of_getElem? (i := 54) rfl))) (Or.inr (hw _ (List.mem_of_getElem? (i := 37) rfl))) (by decide) (t := (.object "com/example/votal/votal/log/DigestAlgorithm")) (t' := .int) (by decide) (by decide)))
  have Ff13 := F_mDigest.other W5 (Or.inr (slot_ne (Or.inr (hw _ (List.mem_of_getElem? (i := 56) rfl))) (Or.inr (hw _ (List.mem_of_getElem? (i := 37) rfl))) (by decide) (t := (.array .byte)) (t' := .int) (by decide) (by decide)))
  have Ff14 := F_mEventDataOffset.other W5 (Or.inr (slot_ne (Or.inr (hw _ (List.mem_of_getElem? (i := 58) rfl))) (Or.inr (hw _ (List.mem_of_getElem? (i := 37) rfl))) (by decide) (t := .int) (t' := .int) (by decide) (by decide)))
  have Ff15 := F_mTemplateData.other W5 (Or.inr (slot_ne (Or.inr (hw _ (List.mem_of_getElem? (i := 60) rfl))) (Or.inr (hw _ (List.mem_of_getElem? (i := 37) rfl))) (by decide) (t := (.array .byte)) (t' := .int) (by decide) (by decide)))
  have Ff16 := F_mViolation.other W5 (Or.inr (slot_ne (Or.inr (hw _ (List.mem_of_getElem? (i := 65) rfl))) (Or.inr (hw _ (List.mem_of_getElem? (i := 37) rfl))) (by decide) (t := .boolean) (t' := .int) (by decide) (by decide)))
  have Ef17 := E4.wr W5
  have Ff18 := F4.other W5 (Or.inl ne_a4_a1)
  have N5 := Fr.snoc X5 N0 g_a1
  have Z5 : n0 ≤ h5.size := Nat.le_trans Z0 (Keep.of_wr W5).1
  have Kp19 : Keep h0 h5 [a1] := (Keep.refl h0 [a1]).wr W5 (Or.inl (List.mem_of_getElem? (i := 0) rfl))
  have ac20 : ∀ t, Steps p.tables e below (T5.setTop (mkF m 9 #[.val (.ref a1), .val (.int p2), .val (.ref a3), .val (.ref a4), .val .null, .val (.ref a6), .val (.ref a7), .val (.int p8), .val (.ref a9)] [])) t → Steps p.tables e below (s₁.setTop (entryFrame m #[(.ref a1), (.int p2), (.ref a3), (.ref a4), .null, (.ref a6), (.ref a7), (.int p8), (.ref a9)] 9)) t := fun t k => ac4 t (st5 t k)
  have ac21 : ∀ t, Steps p.tables e below (T5.setTop (mkF m 11 #[.val (.ref a1), .val (.int p2), .val (.ref a3), .val (.ref a4), .val .null, .val (.ref a6), .val (.ref a7), .val (.int p8), .val (.ref a9)] [(.ref a3), (.ref a1)])) t → Steps p.tables e below (s₁.setTop (entryFrame m #[(.ref a1), (.int p2), (.ref a3), (.ref a4), .null, (.ref a6), (.ref a7), (.int p8), (.ref a9)] 9)) t := fun t k => ac20 t (by
      show Steps p.tables e below (T5.setTop (mkF m 9 #[.val (.ref a1), .val (.int p2), .val (.ref a3), .val (.ref a4), .val .null, .val (.ref a6), .val (.ref a7), .val (.int p8), .val (.ref a9)] [])) _
      refine XS.aloadN X5.here hx rfl (hb hby d6_9) rfl rfl ?_
      show Steps p.tables e below (T5.setTop (mkF m 10 #[.val (.ref a1), .val (.int p2), .val (.ref a3), .val (.ref a4), .val .null, .val (.ref a6), .val (.ref a7), .val (.int p8), .val (.ref a9)] [(.ref a1)])) _
      refine XS.aloadN X5.here hx rfl (hb hby d6_10) rfl rfl ?_
      exact k)
  obtain ⟨T22, h22, X22, e22, W22, st22⟩ := putF X5 hx hZ hown (host := "") (Or.inl (hw _ (List.mem_of_getElem? (i := 38) rfl))) Via.refl e5 Ff8 Ef6 (Or.inr ⟨(hw _ (List.mem_of_getElem? (i := 39) rfl)), rfl, hnm⟩) (hw _ (List.mem_of_getElem? (i := 30) rfl)) (ty := (.array .byte)) (by decide) rfl rfl (g := (mkF m 11 #[.val (.ref a1), .val (.int p2), .val (.ref a3), .val (.ref a4), .val .null, .val (.ref a6), .val (.ref a7), .val (.int p8), .val (.ref a9)] [(.ref a3), (.ref a1)])) rfl rfl (hb hby d6_11)
  have Fw22 := Ff8.same W22
  have Ef23 := Ef6.wr W22
  have Vf24 := Vf7.other W22 ne_a3_a1
  have Ff25 := Ff9.other W22 (Or.inr (slot_ne (Or.inr (hw _ (List.mem_of_getElem? (i := 48) rfl))) (Or.inr (hw _ (List.mem_of_getElem? (i := 39) rfl))) (by decide) (t := (.object "java/lang/String")) (t' := (.array .byte)) (by decide) (by decide)))
  have Ff26 := Ff10.other W22 (Or.inr (slot_ne (Or.inr (hw _ (List.mem_of_getElem? (i := 50) rfl))) (Or.inr (hw _ (List.mem_of_getElem? (i := 39) rfl))) (by decide) (t := (.object "com/example/votal/votal/log/Template")) (t' := (.array .byte)) (by decide) (by decide)))
  have Ff27 := Ff11.other W22 (Or.inr (slot_ne (Or.inr (hw _ (List.mem_of_getElem? (i := 52) rfl))) (Or.inr (hw _ (List.mem_of_getElem? (i := 39) rfl))) (by decide) (t := (.object "java/lang/String")) (t' := (.array .byte)) (by decide) (by decide)))
  have Ff28 := Ff12.other W22 (Or.inr (slot_ne (Or.inr (hw _ (List.mem_of_getElem? (i := 54) rfl))) (Or.inr (hw _ (List.mem_of_getElem? (i := 39) rfl))) (by decide) (t := (.object "com/example/votal/votal/log/DigestAlgorithm")) (t' := (.array .byte)) (by decide) (by decide)))
  have Ff29 := Ff13.other W22 (Or.inr (slot_ne (Or.inr (hw _ (List.mem_of_getElem? (i := 56) rfl))) (Or.inr (hw _ (List.mem_of_getElem? (i := 39) rfl))) (by decide) (t := (.array .byte)) (t' := (.array .byte)) (by decide) (by decide)))
  have Ff30 := Ff14.other W22 (Or.inr (slot_ne (Or.inr (hw _ (List.mem_of_getElem? (i := 58) rfl))) (Or.inr (hw _ (List.mem_of_getElem? (i := 39) rfl))) (by decide) (t := .int) (t' := (.array .byte)) (by decide) (by decide)))
  have Ff31 := Ff15.other W22 (Or.inr (slot_ne (Or.inr (hw _ (List.mem_of_getElem? (i := 60) rfl))) (Or.inr (hw _ (List.mem_of_getElem? (i := 39) rfl))) (by decide) (t := (.array .byte)) (t' := (.array .byte)) (by decide) (by decide)))
  have Ff32 := Ff16.other W22 (Or.inr (slot_ne (Or.inr (hw _ (List.mem_of_getElem? (i := 65) rfl))) (Or.inr (hw _ (List.mem_of_getElem? (i := 39) rfl))) (by decide) (t := .boolean) (t' := (.array .byte)) (by decide) (by decide)))
  have Ef33 := Ef17.wr W22
  have Ff34 := Ff18.other W22 (Or.inl ne_a4_a1)
  have Ff35 := Fw5.other W22 (Or.inr (slot_ne (Or.inr (hw _ (List.mem_of_getElem? (i := 37) rfl))) (Or.inr (hw _ (List.mem_of_getElem? (i := 39) rfl))) (by decide) (t := .int) (t' := (.array .byte)) (by decide) (by decide)))
  have N22 := Fr.snoc X22 N5 g_a1
  have Z22 : n0 ≤ h22.size := Nat.le_trans Z5 (Keep.of_wr W22).1
  have Kp36 : Keep h0 h22 [a1] := Kp19.wr W22 (Or.inl (List.mem_of_getElem? (i := 0) rfl))
  have ac37 : ∀ t, Steps p.tables e below (T22.setTop (mkF m 14 #[.val (.ref a1), .val (.int p2), .val (.ref a3), .val (.ref a4), .val .null, .val (.ref a6), .val (.ref a7), .val (.int p8), .val (.ref a9)] [])) t → Steps p.tables e below (s₁.setTop (entryFrame m #[(.ref a1), (.int p2), (.ref a3), (.ref a4), .null, (.ref a6), (.ref a7), (.int p8), (.ref a9)] 9)) t := fun t k => ac21 t (st22 t k)
  have ac38 : ∀ t, Steps p.tables e below (T22.setTop (mkF m 16 #[.val (.ref a1), .val (.int p2), .val (.ref a3), .val (.ref a4), .val .null, .val (.ref a6), .val (.ref a7), .val (.int p8), .val (.ref a9)] [(.ref a4), (.ref a1)])) t → Steps p.tables e below (s₁.setTop (entryFrame m #[(.ref a1), (.int p2), (.ref a3), (.ref a4), .null, (.ref a6), (.ref a7), (.int p8), (.ref a9)] 9)) t := fun t k => ac37 t (by
      show Steps p.tables e below (T22.setTop (mkF m 14 #[.val (.ref a1), .val (.int p2), .val (.ref a3), .val (.ref a4), .val .null, .val (.ref a6), .val (.ref a7), .val (.int p8), .val (.ref a9)] [])) _
      refine XS.aloadN X22.here hx rfl (hb hby d6_14) rfl rfl ?_
      show Steps p.tables e below (T22.setTop (mkF m 15 #[.val (.ref a1), .val (.int p2), .val (.ref a3), .val (.ref a4), .val .null, .val (.ref a6), .val (.ref a7), .val (.int p8), .val (.ref a9)] [(.ref a1)])) _
      refine XS.aloadN X22.here hx rfl (hb hby d6_15) rfl rfl ?_
      exact k)
  obtain ⟨cq39, kq39, q39a, q39b, q39c⟩ := isOf hZ e22 Ef33
  obtain ⟨_, _, ⟨T39, L39, k39, n39⟩, -, X39, ⟨Lc39, hQ39, l39, y39, z39⟩, st39⟩ := X22.virtualBack hx (y := (⟨"com/example/votal/votal/log/Template", "getName", "()Ljava/lang/String;"⟩ : MethodName)) (z := (⟨"com/example/votal/votal/log/Template", "getName", "()Ljava/lang/String;"⟩ : MethodName)) hown (mvT hZ (hw _ (List.mem_of_getElem? (i := 40) rfl))) (mvT hZ (hw _ (List.mem_of_getElem? (i := 41) rfl))) (notFace_of_selects (args := #[]) (mvT hZ (hw _ (List.mem_of_getElem? (i := 43) rfl)))) (mvT hZ (hw _ (List.mem_of_getElem? (i := 43) rfl))) (mvT hZ (hw _ (List.mem_of_getElem? (i := 42) rfl))) (by decide) (backOf (W := 1) (rm7 l Z a0 hw [] a4 nm h22 n0 Z22 Ff34) hZ (hw _ (List.mem_of_getElem? (i := 44) rfl)) (hw _ (List.mem_of_getElem? (i := 27) rfl)) (by decide) (by decide)) q39a q39c (g := (mkF m 16 #[.val (.ref a1), .val (.int p2), .val (.ref a3), .val (.ref a4), .val .null, .val (.ref a6), .val (.ref a7), .val (.int p8), .val (.ref a9)] [(.ref a4), (.ref a1)])) rfl (by rw [hml]; rfl) (Steps.refl _) (argsL := []) (rest := [(.ref a1)]) (lenOf pd_6 rfl) rfl (by show 2 * 0 + _ ≤ _; exact Nat.le_of_eq rfl) (hb hby d6_16) (fun _ _ => ⟨rfl, e22, (by decide : 0 + 0 ≤ _), (by decide : 0 + 0 ≤ _)⟩)
  dsimp only [Pt.U, Pt.locs, Pt.cells, Pt.slots] at X39 l39 y39 z39 st39 hQ39
  subst l39 y39 z39
  obtain ⟨rfl, N39q, Qe39⟩ := hQ39
  have N39 := Fr.app N22 N39q
  have ac40 : ∀ t, Steps p.tables e below (T39.setTop (mkF m 19 #[.val (.ref a1), .val (.int p2), .val (.ref a3), .val (.ref a4), .val .null, .val (.ref a6), .val (.ref a7), .val (.int p8), .val (.ref a9)] [(.ref nm), (.ref a1)])) t → Steps p.tables e below (s₁.setTop (entryFrame m #[(.ref a1), (.int p2), (.ref a3), (.ref a4), .null, (.ref a6), (.ref a7), (.int p8), (.ref a9)] 9)) t := fun t k => ac38 t (st39.trans k)
  obtain ⟨T41, h41, X41, e41, W41, st41⟩ := putF X39 hx hZ hown (host := "") (Or.inl (hw _ (List.mem_of_getElem? (i := 47) rfl))) Via.refl Qe39 Ff25 Ef23 (Or.inr ⟨(hw _ (List.mem_of_getElem? (i := 48) rfl)), rfl, hnm⟩) (hw _ (List.mem_of_getElem? (i := 30) rfl)) (ty := (.object "java/lang/String")) (by decide) rfl rfl (g := (mkF m 19 #[.val (.ref a1), .val (.int p2), .val (.ref a3), .val (.ref a4), .val .null, .val (.ref a6), .val (.ref a7), .val (.int p8), .val (.ref a9)] [(.ref nm), (.ref a1)])) rfl rfl (hb hby d6_19)
  have Fw41 := Ff25.same W41
  have Ef42 := Ef23.wr W41
  have Vf43 := Vf24.other W41 ne_a3_a1
  have Ff44 := Ff26.other W41 (Or.inr (slot_ne (Or.inr (hw _ (List.mem_of_getElem? (i := 50) rfl))) (Or.inr (hw _ (List.mem_of_getElem? (i := 48) rfl))) (by decide) (t := (.object "com/example/votal/votal/log/Template")) (t' := (.object "java/lang/String")) (by decide) (by decide)))
  have Ff45 := Ff27.other W41 (Or.inr (slot_ne (Or.inr (hw _ (List.mem_of_getElem? (i := 52) rfl))) (Or.inr (hw _ (List.mem_of_getElem? (i := 48) rfl))) (by decide) (t := (.object "java/lang/String")) (t' := (.object "java/lang/String")) (by decide) (by decide)))
  have Ff46 := Ff28.other W41 (Or.inr (slot_ne (Or.inr (hw _ (List.mem_of_getElem? (i := 54) rfl))) (Or.inr (hw _ (List.mem_of_getElem? (i := 48) rfl))) (by decide) (t := (.object "com/example/votal/votal/log/DigestAlgorithm")) (t' := (.object "java/lang/String")) (by decide) (by decide)))
  have Ff47 := Ff29.other W41 (Or.inr (slot_ne (Or.inr (hw _ (List.mem_of_getElem? (i := 56) rfl))) (Or.inr (hw _ (List.mem_of_getElem? (i := 48) rfl))) (by decide) (t := (.array .byte)) (t' := (.object "java/lang/String")) (by decide) (by decide)))
  have Ff48 := Ff30.other W41 (Or.inr (slot_ne (Or.inr (hw _ (List.mem_of_getElem? (i := 58) rfl))) (Or.inr (hw _ (List.mem_of_getElem? (i := 48) rfl))) (by decide) (t := .int) (t' := (.object "java/lang/String")) (by decide) (by decide)))
  have Ff49 := Ff31.other W41 (Or.inr (slot_ne (Or.inr (hw _ (List.mem_of_getElem? (i := 60) rfl))) (Or.inr (hw _ (List.mem_of_getElem? (i := 48) rfl))) (by decide) (t := (.array .byte)) (t' := (.object "java/lang/String")) (by decide) (by decide)))
  have Ff50 := Ff32.other W41 (Or.inr (slot_ne (Or.inr (hw _ (List.mem_of_getElem? (i := 65) rfl))) (Or.inr (hw _ (List.mem_of_getElem? (i := 48) rfl))) (by decide) (t := .boolean) (t' := (.object "java/lang/String")) (by decide) (by decide)))
  have Ef51 := Ef33.wr W41
  have Ff52 := Ff34.other W41 (Or.inl ne_a4_a1)
  have Ff53 := Ff35.other W41 (Or.inr (slot_ne (Or.inr (hw _ (List.mem_of_getElem? (i := 37) rfl))) (Or.inr (hw _ (List.mem_of_getElem? (i := 48) rfl))) (by decide) (t := .int) (t' := (.object "java/lang/String")) (by decide) (by decide)))
  have Ff54 := Fw22.other W41 (Or.inr (slot_ne (Or.inr (hw _ (List.mem_of_getElem? (i := 39) rfl))) (Or.inr (hw _ (List.mem_of_getElem? (i := 48) rfl))) (by decide) (t := (.array .byte)) (t' := (.object "java/lang/String")) (by decide) (by decide)))
  have N41 := Fr.snoc X41 N39 g_a1
  have Z41 : n0 ≤ h41.size := Nat.le_trans Z22 (Keep.of_wr W41).1
  have Kp55 : Keep h0 h41 [a1] := Kp36.wr W41 (Or.inl (List.mem_of_getElem? (i := 0) rfl))
  have ac56 : ∀ t, Steps p.tables e below (T41.setTop (mkF m 22 #[.val (.ref a1), .val (.int p2), .val (.ref a3), .val (.ref a4), .val .null, .val (.ref a6), .val (.ref a7), .val (.int p8), .val (.ref a9)] [])) t → Steps p.tables e below (s₁.setTop (entryFrame m #[(.ref a1), (.int p2), (.ref a3), (.ref a4), .null, (.ref a6), (.ref a7), (.int p8), (.ref a9)] 9)) t := fun t k => ac40 t (st41 t k)
  have ac57 : ∀ t, Steps p.tables e below (T41.setTop (mkF m 24 #[.val (.ref a1), .val (.int p2), .val (.ref a3), .val (.ref a4), .val .null, .val (.ref a6), .val (.ref a7), .val (.int p8), .val (.ref a9)] [(.ref a4), (.ref a1)])) t → Steps p.tables e below (s₁.setTop (entryFrame m #[(.ref a1), (.int p2), (.ref a3), (.ref a4), .null, (.ref a6), (.ref a7), (.int p8), (.ref a9)] 9)) t := fun t k => ac56 t (by
      show Steps p.tables e below (T41.setTop (mkF m 22 #[.val (.ref a1), .val (.int p2), .val (.ref a3), .val (.ref a4), .val .null, .val (.ref a6), .val (.ref a7), .val (.int p8), .val (.ref a9)] [])) _
      refine XS.aloadN X41.here hx rfl (hb hby d6_22) rfl rfl ?_
      show Steps p.tables e below (T41.setTop (mkF m 23 #[.val (.ref a1), .val (.int p2), .val (.ref a3), .val (.ref a4), .val .null, .val (.ref a6), .val (.ref a7), .val (.int p8), .val (.ref a9)] [(.ref a1)])) _
      refine XS.aloadN X41.here hx rfl (hb hby d6_23) rfl rfl ?_
      exact k)
  obtain ⟨T58, h58, X58, e58, W58, st58⟩ := putF X41 hx hZ hown (host := "") (Or.inl (hw _ (List.mem_of_getElem? (i := 49) rfl))) Via.refl e41 Ff44 Ef42 (Or.inr ⟨(hw _ (List.mem_of_getElem? (i := 50) rfl)), rfl, hnm⟩) (hw _ (List.mem_of_getElem? (i := 30) rfl)) (ty := (.object "com/example/votal/votal/log/Template")) (by decide) rfl rfl (g := (mkF m 24 #[.val (.ref a1), .val (.int p2), .val (.ref a3), .val (.ref a4), .val .null, .val (.ref a6), .val (.ref a7), .val (.int p8), .val (.ref a9)] [(.ref a4), (.ref a1)])) rfl rfl (hb hby d6_24)
  have Fw58 := Ff44.same W58
  have Ef59 := Ef42.wr W58
  have Vf60 := Vf43.other W58 ne_a3_a1
  have Ff61 := Ff45.other W58 (Or.inr (slot_ne (Or.inr (hw _ (List.mem_of_getElem? (i := 52) rfl))) (Or.inr (hw _ (List.mem_of_getElem? (i := 50) rfl))) (by decide) (t := (.object "java/lang/String")) (t' := (.object "com/example/votal/votal/log/Template")) (by decide) (by decide)))
  have Ff62 := Ff46.other W58 (Or.inr (slot_ne (Or.inr (hw _ (List.mem_of_getElem? (i := 54) rfl))) (Or.inr (hw _ (List.mem_of_getElem? (i := 50) rfl))) (by decide) (t := (.object "com/example/votal/votal/log/DigestAlgorithm")) (t' := (.object "com/example/votal/votal/log/Template")) (by decide) (by decide)))
  have Ff63 := Ff47.other W58 (Or.inr (slot_ne (Or.inr (hw _ (List.mem_of_getElem? (i := 56) rfl))) (Or.inr (hw _ (List.mem_of_getElem? (i := 50) rfl))) (by decide) (t := (.array .byte)) (t' := (.object "com/example/votal/votal/log/Template")) (by decide) (by decide)))
  have Ff64 := Ff48.other W58 (Or.inr (slot_ne (Or.inr (hw _ (List.mem_of_getElem? (i := 58) rfl))) (Or.inr (hw _ (List.mem_of_getElem? (i := 50) rfl))) (by decide) (t := .int) (t' := (.object "com/example/votal/votal/log/Template")) (by decide) (by decide)))
  have Ff65 := Ff49.other W58 (Or.inr (slot_ne (Or.inr (hw _ (List.mem_of_getElem? (i := 60) rfl))) (Or.inr (hw _ (List.mem_of_getElem? (i := 50) rfl))) (by decide) (t := (.array .byte)) (t' := (.object "com/example/votal/votal/log/Template")) (by decide) (by decide)))
  have Ff66 := Ff50.other W58 (Or.inr (slot_ne (Or.inr (hw _ (List.mem_of_getElem? (i := 65) rfl))) (Or.inr (hw _ (List.mem_of_getElem? (i := 50) rfl))) (by decide) (t := .boolean) (t' := (.object "com/example/votal/votal/log/Template")) (by decide) (by decide)))
  have Ef67 := Ef51.wr W58
  have Ff68 := Ff52.other W58 (Or.inl ne_a4_a1)
  have Ff69 := Ff53.other W58 (Or.inr (slot_ne (Or.inr (hw _ (List.mem_of_getElem? (i := 37) rfl))) (Or.inr (hw _ (List.mem_of_getElem? (i := 50) rfl))) (by decide) (t := .int) (t' := (.object "com/example/votal/votal/log/Template")) (by decide) (by decide)))
  have Ff70 := Ff54.other W58 (Or.inr (slot_ne (Or.inr (hw _ (List.mem_of_getElem? (i := 39) rfl))) (Or.inr (hw _ (List.mem_of_getElem? (i := 50) rfl))) (by decide) (t := (.array .byte)) (t' := (.object "com/example/votal/votal/log/Template")) (by decide) (by decide)))
  have Ff71 := Fw41.other W58 (Or.inr (slot_ne (Or.inr (hw _ (List.mem_of_getElem? (i := 48) rfl))) (Or.inr (hw _ (List.mem_of_getElem? (i := 50) rfl))) (by decide) (t := (.object "java/lang/String")) (t' := (.object "com/example/votal/votal/log/Template")) (by decide) (by decide)))
  have N58 := Fr.snoc X58 N41 g_a1
  have Z58 : n0 ≤ h58.size := Nat.le_trans Z41 (Keep.of_wr W58).1
  have Kp72 : Keep h0 h58 [a1] := Kp55.wr W58 (Or.inl (List.mem_of_getElem? (i := 0) rfl))
  have ac73 : ∀ t, Steps p.tables e below (T58.setTop (mkF m 27 #[.val (.ref a1), .val (.int p2), .val (.ref a3), .val (.ref a4), .val .null, .val (.ref a6), .val (.ref a7), .val (.int p8), .val (.ref a9)] [])) t → Steps p.tables e below (s₁.setTop (entryFrame m #[(.ref a1), (.int p2), (.ref a3), (.ref a4), .null, (.ref a6), (.ref a7), (.int p8), (.ref a9)] 9)) t := fun t k => ac57 t (st58 t k)
  have ac74 : ∀ t, Steps p.tables e below (T58.setTop (mkF m 30 #[.val (.ref a1), .val (.int p2), .val (.ref a3), .val (.ref a4), .val .null, .val (.ref a6), .val (.ref a7), .val (.int p8), .val (.ref a9)] [(.ref a7), (.ref a1)])) t → Steps p.tables e below (s₁.setTop (entryFrame m #[(.ref a1), (.int p2), (.ref a3), (.ref a4), .null, (.ref a6), (.ref a7), (.int p8), (.ref a9)] 9)) t := fun t k => ac73 t (by
      show Steps p.tables e below (T58.setTop (mkF m 27 #[.val (.ref a1), .val (.int p2), .val (.ref a3), .val (.ref a4), .val .null, .val (.ref a6), .val (.ref a7), .val (.int p8), .val (.ref a9)] [])) _
      refine XS.aloadN X58.here hx rfl (hb hby d6_27) rfl rfl ?_
      show Steps p.tables e below (T58.setTop (mkF m 28 #[.val (.ref a1), .val (.int p2), .val (.ref a3), .val (.ref a4), .val .null, .val (.ref a6), .val (.ref a7), .val (.int p8), .val (.ref a9)] [(.ref a1)])) _
      refine XS.aload X58.here hx rfl (hb hby d6_28) rfl rfl ?_
      exact k)
  obtain ⟨T75, h75, X75, e75, W75, st75⟩ := putF X58 hx hZ hown (host := "") (Or.inl (hw _ (List.mem_of_getElem? (i := 51) rfl))) Via.refl e58 Ff61 Ef59 (Or.inr ⟨(hw _ (List.mem_of_getElem? (i := 52) rfl)), rfl, hnm⟩) (hw _ (List.mem_of_getElem? (i := 30) rfl)) (ty := (.object "java/lang/String")) (by decide) rfl rfl (g := (mkF m 30 #[.val (.ref a1), .val (.int p2), .val (.ref a3), .val (.ref a4), .val .null, .val (.ref a6), .val (.ref a7), .val (.int p8), .val (.ref a9)] [(.ref a7), (.ref a1)])) rfl rfl (hb hby d6_30)
  have Fw75 := Ff61.same W75
  have Ef76 := Ef59.wr W75
  have Vf77 := Vf60.other W75 ne_a3_a1
  have Ff78 := Ff62.other W75 (Or.inr (slot_ne (Or.inr (hw _ (List.mem_of_getElem? (i := 54) rfl))) (Or.inr (hw _ (List.mem_of_getElem? (i := 52) rfl))) (by decide) (t := (.object "com/example/votal/votal/log/DigestAlgorithm")) (t' := (.object "java/lang/String")) (by decide) (by decide)))
  have Ff79 := Ff63.other W75 (Or.inr (slot_ne (Or.inr (hw _ (List.mem_of_getElem? (i := 56) rfl))) (Or.inr (hw _ (List.mem_of_getElem? (i := 52) rfl))) (by decide) (t := (.array .byte)) (t' := (.object "java/lang/String")) (by decide) (by decide)))
  have Ff80 := Ff64.other W75 (Or.inr (slot_ne (Or.inr (hw _ (List.mem_of_getElem? (i := 58) rfl))) (Or.inr (hw _ (List.mem_of_getElem? (i := 52) rfl))) (by decide) (t := .int) (t' := (.object "java/lang/String")) (by decide) (by decide)))
  have Ff81 := Ff65.other W75 (Or.inr (slot_ne (Or.inr (hw _ (List.mem_of_getElem? (i := 60) rfl))) (Or.inr (hw _ (List.mem_of_getElem? (i := 52) rfl))) (by decide) (t := (.array .byte)) (t' := (.object "java/lang/String")) (by decide) (by decide)))
  have Ff82 := Ff66.other W75 (Or.inr (slot_ne (Or.inr (hw _ (List.mem_of_getElem? (i := 65) rfl))) (Or.inr (hw _ (List.mem_of_getElem? (i := 52) rfl))) (by decide) (t := .boolean) (t' := (.object "java/lang/String")) (by decide) (by decide)))
  have Ef83 := Ef67.wr W75
  have Ff84 := Ff68.other W75 (Or.inl ne_a4_a1)
  have Ff85 := Ff69.other W75 (Or.inr (slot_ne (Or.inr (hw _ (List.mem_of_getElem? (i := 37) rfl))) (Or.inr (hw _ (List.mem_of_getElem? (i := 52) rfl))) (by decide) (t := .int) (t' := (.object "java/lang/String")) (by decide) (by decide)))
  have Ff86 := Ff70.other W75 (Or.inr (slot_ne (Or.inr (hw _ (List.mem_of_getElem? (i := 39) rfl))) (Or.inr (hw _ (List.mem_of_getElem? (i := 52) rfl))) (by decide) (t := (.array .byte)) (t' := (.object "java/lang/String")) (by decide) (by decide)))
  have Ff87 := Ff71.other W75 (Or.inr (slot_ne (Or.inr (hw _ (List.mem_of_getElem? (i := 48) rfl))) (Or.inr (hw _ (List.mem_of_getElem? (i := 52) rfl))) (by decide) (t := (.object "java/lang/String")) (t' := (.object "java/lang/String")) (by decide) (by decide)))
  have Ff88 := Fw58.other W75 (Or.inr (slot_ne (Or.inr (hw _ (List.mem_of_getElem? (i := 50) rfl))) (Or.inr (hw _ (List.mem_of_getElem? (i := 52) rfl))) (by decide) (t := (.object "com/example/votal/votal/log/Template")) (t' := (.object "java/lang/String")) (by decide) (by decide)))
  have N75 := Fr.snoc X75 N58 g_a1
  have Z75 : n0 ≤ h75.size := Nat.le_trans Z58 (Keep.of_wr W75).1
  have Kp89 : Keep h0 h75 [a1] := Kp72.wr W75 (Or.inl (List.mem_of_getElem? (i := 0) rfl))
  have ac90 : ∀ t, Steps p.tables e below (T75.setTop (mkF m 33 #[.val (.ref a1), .val (.int p2), .val (.ref a3), .val (.ref a4), .val .null, .val (.ref a6), .val (.ref a7), .val (.int p8), .val (.ref a9)] [])) t → Steps p.tables e below (s₁.setTop (entryFrame m #[(.ref a1), (.int p2), (.ref a3), (.ref a4), .null, (.ref a6), (.ref a7), (.int p8), (.ref a9)] 9)) t := fun t k => ac74 t (st75 t k)
  have ac91 : ∀ t, Steps p.tables e below (T75.setTop (mkF m 36 #[.val (.ref a1), .val (.int p2), .val (.ref a3), .val (.ref a4), .val .null, .val (.ref a6), .val (.ref a7), .val (.int p8), .val (.ref a9)] [.null, (.ref a1)])) t → Steps p.tables e below (s₁.setTop (entryFrame m #[(.ref a1), (.int p2), (.ref a3), (.ref a4), .null, (.ref a6), (.ref a7), (.int p8), (.ref a9)] 9)) t := fun t k => ac90 t (by
      show Steps p.tables e below (T75.setTop (mkF m 33 #[.val (.ref a1), .val (.int p2), .val (.ref a3), .val (.ref a4), .val .null, .val (.ref a6), .val (.ref a7), .val (.int p8), .val (.ref a9)] [])) _
      refine XS.aloadN X75.here hx rfl (hb hby d6_33) rfl rfl ?_
      show Steps p.tables e below (T75.setTop (mkF m 34 #[.val (.ref a1), .val (.int p2), .val (.ref a3), .val (.ref a4), .val .null, .val (.ref a6), .val (.ref a7), .val (.int p8), .val (.ref a9)] [(.ref a1)])) _
      refine XS.aload X75.here hx rfl (hb hby d6_34) rfl rfl ?_
      exact k)
  obtain ⟨T92, h92, X92, e92, W92, st92⟩ := putF X75 hx hZ hown (host := "") (Or.inl (hw _ (List.mem_of_getElem? (i := 53) rfl))) Via.refl e75 Ff78 Ef76 (Or.inr ⟨(hw _ (List.mem_of_getElem? (i := 54) rfl)), rfl, hnm⟩) (hw _ (List.mem_of_getElem? (i := 30) rfl)) (ty := (.object "com/example/votal/votal/log/DigestAlgorithm")) (by decide) rfl rfl (g := (mkF m 36 #[.val (.ref a1), .val (.int p2), .val (.ref a3), .val (.ref a4), .val .null, .val (.ref a6), .val (.ref a7), .val (.int p8), .val (.ref a9)] [.null, (.ref a1)])) rfl rfl (hb hby d6_36)
  have Fw92 := Ff78.same W92
  have Ef93 := Ef76.wr W92
  have Vf94 := Vf77.other W92 ne_a3_a1
  have Ff95 := Ff79.other W92 (Or.inr (slot_ne (Or.inr (hw _ (List.mem_of_getElem? (i := 56) rfl))) (Or.inr (hw _ (List.mem_of_getElem? (i := 54) rfl))) (by decide) (t := (.array .byte)) (t' := (.object "com/example/votal/votal/log/DigestAlgorithm")) (by decide) (by decide)))
  have Ff96 := Ff80.other W92 (Or.inr (slot_ne (Or.inr (hw _ (List.mem_of_getElem? (i := 58) rfl))) (Or.inr (hw _ (List.mem_of_getElem? (i := 54) rfl))) (by decide) (t := .int) (t' := (.object "com/example/votal/votal/log/DigestAlgorithm")) (by decide) (by decide)))
  have Ff97 := Ff81.other W92 (Or.inr (slot_ne (Or.inr (hw _ (List.mem_of_getElem? (i := 60) rfl))) (Or.inr (hw _ (List.mem_of_getElem? (i := 54) rfl))) (by decide) (t := (.array .byte)) (t' := (.object "com/example/votal/votal/log/DigestAlgorithm")) (by decide) (by decide)))
  have Ff98 := Ff82.other W92 (Or.inr (slot_ne (Or.inr (hw _ (List.mem_of_getElem? (i := 65) rfl))) (Or.inr (hw _ (List.mem_of_getElem? (i := 54) rfl))) (by decide) (t := .boolean) (t' := (.object "com/example/votal/votal/log/DigestAlgorithm")) (by decide) (by decide)))
  have Ef99 := Ef83.wr W92
  have Ff100 := Ff84.other W92 (Or.inl ne_a4_a1)
  have Ff101 := Ff85.other W92 (Or.inr (slot_ne (Or.inr (hw _ (List.mem_of_getElem? (i := 37) rfl))) (Or.inr (hw _ (List.mem_of_getElem? (i := 54) rfl))) (by decide) (t := .int) (t' := (.object "com/example/votal/votal/log/DigestAlgorithm")) (by decide) (by decide)))
  have Ff102 := Ff86.other W92 (Or.inr (slot_ne (Or.inr (hw _ (List.mem_of_getElem? (i := 39) rfl))) (Or.inr (hw _ (List.mem_of_getElem? (i := 54) rfl))) (by decide) (t := (.array .byte)) (t' := (.object "com/example/votal/votal/log/DigestAlgorithm")) (by decide) (by decide)))
  have Ff103 := Ff87.other W92 (Or.inr (slot_ne (Or.inr (hw _ (List.mem_of_getElem? (i := 48) rfl))) (Or.inr (hw _ (List.mem_of_getElem? (i := 54) rfl))) (by decide) (t := (.object "java/lang/String")) (t' := (.object "com/example/votal/votal/log/DigestAlgorithm")) (by decide) (by decide)))
  have Ff104 := Ff88.other W92 (Or.inr (slot_ne (Or.inr (hw _ (List.mem_of_getElem? (i := 50) rfl))) (Or.inr (hw _ (List.mem_of_getElem? (i := 54) rfl))) (by decide) (t := (.object "com/example/votal/votal/log/Template")) (t' := (.object "com/example/votal/votal/log/DigestAlgorithm")) (by decide) (by decide)))
  have Ff105 := Fw75.other W92 (Or.inr (slot_ne (Or.inr (hw _ (List.mem_of_getElem? (i := 52) rfl))) (Or.inr (hw _ (List.mem_of_getElem? (i := 54) rfl))) (by decide) (t := (.object "java/lang/String")) (t' := (.object "com/example/votal/votal/log/DigestAlgorithm")) (by decide) (by decide)))
  have N92 := Fr.snoc X92 N75 g_a1
  have Z92 : n0 ≤ h92.size := Nat.le_trans Z75 (Keep.of_wr W92).1
  have Kp106 : Keep h0 h92 [a1] := Kp89.wr W92 (Or.inl (List.mem_of_getElem? (i := 0) rfl))
  have ac107 : ∀ t, Steps p.tables e below (T92.setTop (mkF m 39 #[.val (.ref a1), .val (.int p2), .val (.ref a3), .val (.ref a4), .val .null, .val (.ref a6), .val (.ref a7), .val (.int p8), .val (.ref a9)] [])) t → Steps p.tables e below (s₁.setTop (entryFrame m #[(.ref a1), (.int p2), (.ref a3), (.ref a4), .null, (.ref a6), (.ref a7), (.int p8), (.ref a9)] 9)) t := fun t k => ac91 t (st92 t k)
  have ac108 : ∀ t, Steps p.tables e below (T92.setTop (mkF m 42 #[.val (.ref a1), .val (.int p2), .val (.ref a3), .val (.ref a4), .val .null, .val (.ref a6), .val (.ref a7), .val (.int p8), .val (.ref a9)] [(.ref a6), (.ref a1)])) t → Steps p.tables e below (s₁.setTop (entryFrame m #[(.ref a1), (.int p2), (.ref a3), (.ref a4), .null, (.ref a6), (.ref a7), (.int p8), (.ref a9)] 9)) t := fun t k => ac107 t (by
      show Steps p.tables e below (T92.setTop (mkF m 39 #[.val (.ref a1), .val (.int p2), .val (.ref a3), .val (.ref a4), .val .null, .val (.ref a6), .val (.ref a7), .val (.int p8), .val (.ref a9)] [])) _
      refine XS.aloadN X92.here hx rfl (hb hby d6_39) rfl rfl ?_
      show Steps p.tables e below (T92.setTop (mkF m 40 #[.val (.ref a1), .val (.int p2), .val (.ref a3), .val (.ref a4), .val .null, .val (.ref a6), .val (.ref a7), .val (.int p8), .val (.ref a9)] [(.ref a1)])) _
      refine XS.aload X92.here hx rfl (hb hby d6_40) rfl rfl ?_
      exact k)
  obtain ⟨T109, h109, X109, e109, W109, st109⟩ := putF X92 hx hZ hown (host := "") (Or.inl (hw _ (List.mem_of_getElem? (i := 55) rfl))) Via.refl e92 Ff95 Ef93 (Or.inr ⟨(hw _ (List.mem_of_getElem? (i := 56) rfl)), rfl, hnm⟩) (hw _ (List.mem_of_getElem? (i := 30) rfl)) (ty := (.array .byte)) (by decide) rfl rfl (g := (mkF m 42 #[.val (.ref a1), .val (.int p2), .val (.ref a3), .val (.ref a4), .val .null, .val (.ref a6), .val (.ref a7), .val (.int p8), .val (.ref a9)] [(.ref a6), (.ref a1)])) rfl rfl (hb hby d6_42)
  have Fw109 := Ff95.same W109
  have Ef110 := Ef93.wr W109
  have Vf111 := Vf94.other W109 ne_a3_a1
  have Ff112 := Ff96.other W109 (Or.inr (slot_ne (Or.inr (hw _ (List.mem_of_getElem? (i := 58) rfl))) (Or.inr (hw _ (List.mem_of_getElem? (i := 56) rfl))) (by decide) (t := .int) (t' := (.array .byte)) (by decide) (by decide)))
  have Ff113 := Ff97.other W109 (Or.inr (slot_ne (Or.inr (hw _ (List.mem_of_getElem? (i := 60) rfl))) (Or.inr (hw _ (List.mem_of_getElem? (i := 56) rfl))) (by decide) (t := (.array .byte)) (t' := (.array .byte)) (by decide) (by decide)))
  have Ff114 := Ff98.other W109 (Or.inr (slot_ne (Or.inr (hw _ (List.mem_of_getElem? (i := 65) rfl))) (Or.inr (hw _ (List.mem_of_getElem? (i := 56) rfl))) (by decide) (t := .boolean) (t' := (.array .byte)) (by decide) (by decide)))
  have Ef115 := Ef99.wr W109
  have Ff116 := Ff100.other W109 (Or.inl ne_a4_a1)
  have Ff117 := Ff101.other W109 (Or.inr (slot_ne (Or.inr (hw _ (List.mem_of_getElem? (i := 37) rfl))) (Or.inr (hw _ (List.mem_of_getElem? (i := 56) rfl))) (by decide) (t := .int) (t' := (.array .byte)) (by decide) (by decide)))
  have Ff118 := Ff102.other W109 (Or.inr (slot_ne (Or.inr (hw _ (List.mem_of_getElem? (i := 39) rfl))) (Or.inr (hw _ (List.mem_of_getElem? (i := 56) rfl))) (by decide) (t := (.array .byte)) (t' := (.array .byte)) (by decide) (by decide)))
  have Ff119 := Ff103.other W109 (Or.inr (slot_ne (Or.inr (hw _ (List.mem_of_getElem? (i := 48) rfl))) (Or.inr (hw _ (List.mem_of_getElem? (i := 56) rfl))) (by decide) (t := (.object "java/lang/String")) (t' := (.array .byte)) (by decide) (by decide)))
  have Ff120 := Ff104.other W109 (Or.inr (slot_ne (Or.inr (hw _ (List.mem_of_getElem? (i := 50) rfl))) (Or.inr (hw _ (List.mem_of_getElem? (i := 56) rfl))) (by decide) (t := (.object "com/example/votal/votal/log/Template")) (t' := (.array .byte)) (by decide) (by decide)))
  have Ff121 := Ff105.other W109 (Or.inr (slot_ne (Or.inr (hw _ (List.mem_of_getElem? (i := 52) rfl))) (Or.inr (hw _ (List.mem_of_getElem? (i := 56) rfl))) (by decide) (t := (.object "java/lang/String")) (t' := (.array .byte)) (by decide) (by decide)))
  have Ff122 := Fw92.other W109 (Or.inr (slot_ne (Or.inr (hw _ (List.mem_of_getElem? (i := 54) rfl))) (Or.inr (hw _ (List.mem_of_getElem? (i := 56) rfl))) (by decide) (t := (.object "com/example/votal/votal/log/DigestAlgorithm")) (t' := (.array .byte)) (by decide) (by decide)))
  have N109 := Fr.snoc X109 N92 g_a1
  have Z109 : n0 ≤ h109.size := Nat.le_trans Z92 (Keep.of_wr W109).1
  have Kp123 : Keep h0 h109 [a1] := Kp106.wr W109 (Or.inl (List.mem_of_getElem? (i := 0) rfl))
  have ac124 : ∀ t, Steps p.tables e below (T109.setTop (mkF m 45 #[.val (.ref a1), .val (.int p2), .val (.ref a3), .val (.ref a4), .val .null, .val (.ref a6), .val (.ref a7), .val (.int p8), .val (.ref a9)] [])) t → Steps p.tables e below (s₁.setTop (entryFrame m #[(.ref a1), (.int p2), (.ref a3), (.ref a4), .null, (.ref a6), (.ref a7), (.int p8), (.ref a9)] 9)) t := fun t k => ac108 t (st109 t k)
  have ac125 : ∀ t, Steps p.tables e below (T109.setTop (mkF m 48 #[.val (.ref a1), .val (.int p2), .val (.ref a3), .val (.ref a4), .val .null, .val (.ref a6), .val (.ref a7), .val (.int p8), .val (.ref a9)] [(.int p8), (.ref a1)])) t → Steps p.tables e below (s₁.setTop (entryFrame m #[(.ref a1), (.int p2), (.ref a3), (.ref a4), .null, (.ref a6), (.ref a7), (.int p8), (.ref a9)] 9)) t := fun t k => ac124 t (by
      show Steps p.tables e below (T109.setTop (mkF m 45 #[.val (.ref a1), .val (.int p2), .val (.ref a3), .val (.ref a4), .val .null, .val (.ref a6), .val (.ref a7), .val (.int p8), .val (.ref a9)] [])) _
      refine XS.aloadN X109.here hx rfl (hb hby d6_45) rfl rfl ?_
      show Steps p.tables e below (T109.setTop (mkF m 46 #[.val (.ref a1), .val (.int p2), .val (.ref a3), .val (.ref a4), .val .null, .val (.ref a6), .val (.ref a7), .val (.int p8), .val (.ref a9)] [(.ref a1)])) _
      refine XS.iload X109.here hx rfl (hb hby d6_46) rfl ?_
      exact k)
  obtain ⟨T126, h126, X126, e126, W126, st126⟩ := putF X109 hx hZ hown (host := "") (Or.inl (hw _ (List.mem_of_getElem? (i := 57) rfl))) Via.refl e109 Ff112 Ef110 (Or.inr ⟨(hw _ (List.mem_of_getElem? (i := 58) rfl)), rfl, hnm⟩) (hw _ (List.mem_of_getElem? (i := 30) rfl)) (ty := .int) (by decide) rfl rfl (g := (mkF m 48 #[.val (.ref a1), .val (.int p2), .val (.ref a3), .val (.ref a4), .val .null, .val (.ref a6), .val (.ref a7), .val (.int p8), .val (.ref a9)] [(.int p8), (.ref a1)])) rfl rfl (hb hby d6_48)
  have Fw126 := Ff112.same W126
  have Ef127 := Ef110.wr W126
  have Vf128 := Vf111.other W126 ne_a3_a1
  have Ff129 := Ff113.other W126 (Or.inr (slot_ne (Or.inr (hw _ (List.mem_of_getElem? (i := 60) rfl))) (Or.inr (hw _ (List.mem_of_getElem? (i := 58) rfl))) (by decide) (t := (.array .byte)) (t' := .int) (by decide) (by decide)))
  have Ff130 := Ff114.other W126 (Or.inr (slot_ne (Or.inr (hw _ (List.mem_of_getElem? (i := 65) rfl))) (Or.inr (hw _ (List.mem_of_getElem? (i := 58) rfl))) (by decide) (t := .boolean) (t' := .int) (by decide) (by decide)))
  have Ef131 := Ef115.wr W126
  have Ff132 := Ff116.other W126 (Or.inl ne_a4_a1)
  have Ff133 := Ff117.other W126 (Or.inr (slot_ne (Or.inr (hw _ (List.mem_of_getElem? (i := 37) rfl))) (Or.inr (hw _ (List.mem_of_getElem? (i := 58) rfl))) (by decide) (t := .int) (t' := .int) (by decide) (by decide)))
  have Ff134 := Ff118.other W126 (Or.inr (slot_ne (Or.inr (hw _ (List.mem_of_getElem? (i := 39) rfl))) (Or.inr (hw _ (List.mem_of_getElem? (i := 58) rfl))) (by decide) (t := (.array .byte)) (t' := .int) (by decide) (by decide)))
  have Ff135 := Ff119.other W126 (Or.inr (slot_ne (Or.inr (hw _ (List.mem_of_getElem? (i := 48) rfl))) (Or.inr (hw _ (List.mem_of_getElem? (i := 58) rfl))) (by decide) (t := (.object "java/lang/String")) (t' := .int) (by decide) (by decide)))
  have Ff136 := Ff120.other W126 (Or.inr (slot_ne (Or.inr (hw _ (List.mem_of_getElem? (i := 50) rfl))) (Or.inr (hw _ (List.mem_of_getElem? (i := 58) rfl))) (by decide) (t := (.object "com/example/votal/votal/log/Template")) (t' := .int) (by decide) (by decide)))
  have Ff137 := Ff121.other W126 (Or.inr (slot_ne (Or.inr (hw _ (List.mem_of_getElem? (i := 52) rfl))) (Or.inr (hw _ (List.mem_of_getElem? (i := 58) rfl))) (by decide) (t := (.object "java/lang/String")) (t' := .int) (by decide) (by decide)))
  have Ff138 := Ff122.other W126 (Or.inr (slot_ne (Or.inr (hw _ (List.mem_of_getElem? (i := 54) rfl))) (Or.inr (hw _ (List.mem_of_getElem? (i := 58) rfl))) (by decide) (t := (.object "com/example/votal/votal/log/DigestAlgorithm")) (t' := .int) (by decide) (by decide)))
  have Ff139 := Fw109.other W126 (Or.inr (slot_ne (Or.inr (hw _ (List.mem_of_getElem? (i := 56) rfl))) (Or.inr (hw _ (List.mem_of_getElem? (i := 58) rfl))) (by decide) (t := (.array .byte)) (t' := .int) (by decide) (by decide)))
  have N126 := Fr.snoc X126 N109 g_a1
  have Z126 : n0 ≤ h126.size := Nat.le_trans Z109 (Keep.of_wr W126).1
  have Kp140 : Keep h0 h126 [a1] := Kp123.wr W126 (Or.inl (List.mem_of_getElem? (i := 0) rfl))
  have ac141 : ∀ t, Steps p.tables e below (T126.setTop (mkF m 51 #[.val (.ref a1), .val (.int p2), .val (.ref a3), .val (.ref a4), .val .null, .val (.ref a6), .val (.ref a7), .val (.int p8), .val (.ref a9)] [])) t → Steps p.tables e below (s₁.setTop (entryFrame m #[(.ref a1), (.int p2), (.ref a3), (.ref a4), .null, (.ref a6), (.ref a7), (.int p8), (.ref a9)] 9)) t := fun t k => ac125 t (st126 t k)
  have ac142 : ∀ t, Steps p.tables e below (T126.setTop (mkF m 54 #[.val (.ref a1), .val (.int p2), .val (.ref a3), .val (.ref a4), .val .null, .val (.ref a6), .val (.ref a7), .val (.int p8), .val (.ref a9)] [(.ref a9), (.ref a1)])) t → Steps p.tables e below (s₁.setTop (entryFrame m #[(.ref a1), (.int p2), (.ref a3), (.ref a4), .null, (.ref a6), (.ref a7), (.int p8), (.ref a9)] 9)) t := fun t k => ac141 t (by
      show Steps p.tables e below (T126.setTop (mkF m 51 #[.val (.ref a1), .val (.int p2), .val (.ref a3), .val (.ref a4), .val .null, .val (.ref a6), .val (.ref a7), .val (.int p8), .val (.ref a9)] [])) _
      refine XS.aloadN X126.here hx rfl (hb hby d6_51) rfl rfl ?_
      show Steps p.tables e below (T126.setTop (mkF m 52 #[.val (.ref a1), .val (.int p2), .val (.ref a3), .val (.ref a4), .val .null, .val (.ref a6), .val (.ref a7), .val (.int p8), .val (.ref a9)] [(.ref a1)])) _
      refine XS.aload X126.here hx rfl (hb hby d6_52) rfl rfl ?_
      exact k)
  obtain ⟨T143, h143, X143, e143, W143, st143⟩ := putF X126 hx hZ hown (host := "") (Or.inl (hw _ (List.mem_of_getElem? (i := 59) rfl))) Via.refl e126 Ff129 Ef127 (Or.inr ⟨(hw _ (List.mem_of_getElem? (i := 60) rfl)), rfl, hnm⟩) (hw _ (List.mem_of_getElem? (i := 30) rfl)) (ty := (.array .byte)) (by decide) rfl rfl (g := (mkF m 54 #[.val (.ref a1), .val (.int p2), .val (.ref a3), .val (.ref a4), .val .null, .val (.ref a6), .val (.ref a7), .val (.int p8), .val (.ref a9)] [(.ref a9), (.ref a1)])) rfl rfl (hb hby d6_54)
  have Fw143 := Ff129.same W143
  have Ef144 := Ef127.wr W143
  have Vf145 := Vf128.other W143 ne_a3_a1
  have Ff146 := Ff130.other W143 (Or.inr (slot_ne (Or.inr (hw _ (List.mem_of_getElem? (i := 65) rfl))) (Or.inr (hw _ (List.mem_of_getElem? (i := 60) rfl))) (by decide) (t := .boolean) (t' := (.array .byte)) (by decide) (by decide)))
  have Ef147 := Ef131.wr W143
  have Ff148 := Ff132.other W143 (Or.inl ne_a4_a1)
  have Ff149 := Ff133.other W143 (Or.inr (slot_ne (Or.inr (hw _ (List.mem_of_getElem? (i := 37) rfl))) (Or.inr (hw _ (List.mem_of_getElem? (i := 60) rfl))) (by decide) (t := .int) (t' := (.array .byte)) (by decide) (by decide)))
  have Ff150 := Ff134.other W143 (Or.inr (slot_ne (Or.inr (hw _ (List.mem_of_getElem? (i := 39) rfl))) (Or.inr (hw _ (List.mem_of_getElem? (i := 60) rfl))) (by decide) (t := (.array .byte)) (t' := (.array .byte)) (by decide) (by decide)))
  have Ff151 := Ff135.other W143 (Or.inr (slot_ne (Or.inr (hw _ (List.mem_of_getElem? (i := 48) rfl))) (Or.inr (hw _ (List.mem_of_getElem? (i := 60) rfl))) (by decide) (t := (.object "java/lang/String")) (t' := (.array .byte)) (by decide) (by decide)))
  have Ff152 := Ff136.other W143 (Or.inr (slot_ne (Or.inr (hw _ (List.mem_of_getElem? (i := 50) rfl))) (Or.inr (hw _ (List.mem_of_getElem? (i := 60) rfl))) (by decide) (t := (.object "com/example/votal/votal/log/Template")) (t' := (.array .byte)) (by decide) (by decide)))
  have Ff153 := Ff137.other W143 (Or.inr (slot_ne (Or.inr (hw _ (List.mem_of_getElem? (i := 52) rfl))) (Or.inr (hw _ (List.mem_of_getElem? (i := 60) rfl))) (by decide) (t := (.object "java/lang/String")) (t' := (.array .byte)) (by decide) (by decide)))
  have Ff154 := Ff138.other W143 (Or.inr (slot_ne (Or.inr (hw _ (List.mem_of_getElem? (i := 54) rfl))) (Or.inr (hw _ (List.mem_of_getElem? (i := 60) rfl))) (by decide) (t := (.object "com/example/votal/votal/log/DigestAlgorithm")) (t' := (.array .byte)) (by decide) (by decide)))
  have Ff155 := Ff139.other W143 (Or.inr (slot_ne (Or.inr (hw _ (List.mem_of_getElem? (i := 56) rfl))) (Or.inr (hw _ (List.mem_of_getElem? (i := 60) rfl))) (by decide) (t := (.array .byte)) (t' := (.array .byte)) (by decide) (by decide)))
  have Ff156 := Fw126.other W143 (Or.inr (slot_ne (Or.inr (hw _ (List.mem_of_getElem? (i := 58) rfl))) (Or.inr (hw _ (List.mem_of_getElem? (i := 60) rfl))) (by decide) (t := .int) (t' := (.array .byte)) (by decide) (by decide)))
  have N143 := Fr.snoc X143 N126 g_a1
  have Z143 : n0 ≤ h143.size := Nat.le_trans Z126 (Keep.of_wr W143).1
  have Kp157 : Keep h0 h143 [a1] := Kp140.wr W143 (Or.inl (List.mem_of_getElem? (i := 0) rfl))
  have ac158 : ∀ t, Steps p.tables e below (T143.setTop (mkF m 57 #[.val (.ref a1), .val (.int p2), .val (.ref a3), .val (.ref a4), .val .null, .val (.ref a6), .val (.ref a7), .val (.int p8), .val (.ref a9)] [])) t → Steps p.tables e below (s₁.setTop (entryFrame m #[(.ref a1), (.int p2), (.ref a3), (.ref a4), .null, (.ref a6), (.ref a7), (.int p8), (.ref a9)] 9)) t := fun t k => ac142 t (st143 t k)
  have ac159 : ∀ t, Steps p.tables e below (T143.setTop (mkF m 59 #[.val (.ref a1), .val (.int p2), .val (.ref a3), .val (.ref a4), .val .null, .val (.ref a6), .val (.ref a7), .val (.int p8), .val (.ref a9)] [(.ref a3), (.ref a1)])) t → Steps p.tables e below (s₁.setTop (entryFrame m #[(.ref a1), (.int p2), (.ref a3), (.ref a4), .null, (.ref a6), (.ref a7), (.int p8), (.ref a9)] 9)) t := fun t k => ac158 t (by
      show Steps p.tables e below (T143.setTop (mkF m 57 #[.val (.ref a1), .val (.int p2), .val (.ref a3), .val (.ref a4), .val .null, .val (.ref a6), .val (.ref a7), .val (.int p8), .val (.ref a9)] [])) _
      refine XS.aloadN X143.here hx rfl (hb hby d6_57) rfl rfl ?_
      show Steps p.tables e below (T143.setTop (mkF m 58 #[.val (.ref a1), .val (.int p2), .val (.ref a3), .val (.ref a4), .val .null, .val (.ref a6), .val (.ref a7), .val (.int p8), .val (.ref a9)] [(.ref a1)])) _
      refine XS.aloadN X143.here hx rfl (hb hby d6_58) rfl rfl ?_
      exact k)
  obtain ⟨_, _, ⟨T160, L160, k160, n160⟩, -, X160, ⟨Lc160, hQ160, l160, y160, z160⟩, st160⟩ := Jvm.LawKit.callS X143 hx (y := (⟨"com/example/votal/votal/log/LogRecord", "isZero", "([B)Z"⟩ : MethodName)) hown (mvT hZ (hw _ (List.mem_of_getElem? (i := 61) rfl))) (mvT hZ (hw _ (List.mem_of_getElem? (i := 62) rfl))) (mvT hZ (hw _ (List.mem_of_getElem? (i := 31) rfl))) (mvT hZ (hw _ (List.mem_of_getElem? (i := 63) rfl))) (by decide) (backOf (W := 1) (rm8 l Z a0 hw [] a3 n1 f h143 n0 Z143 Vf145 hf h1) hZ (hw _ (List.mem_of_getElem? (i := 63) rfl)) (hw _ (List.mem_of_getElem? (i := 31) rfl)) (by decide) (by decide)) (g := (mkF m 59 #[.val (.ref a1), .val (.int p2), .val (.ref a3), .val (.ref a4), .val .null, .val (.ref a6), .val (.ref a7), .val (.int p8), .val (.ref a9)] [(.ref a3), (.ref a1)])) rfl (by rw [hml]; rfl) (argsL := [(.ref a3)]) (rest := [(.ref a1)]) (lenOf pd_7 rfl) rfl (by show 2 * 0 + _ ≤ _; exact Nat.le_of_eq rfl) (hb hby d6_59) (fun _ _ => ⟨rfl, e143, (by decide : 0 + 0 ≤ _), (by decide : 0 + 0 ≤ _)⟩)
  dsimp only [Pt.U, Pt.locs, Pt.cells, Pt.slots] at X160 l160 y160 z160 st160 hQ160
  subst l160 y160 z160
  obtain ⟨r160, rfl, N160q, Qe160⟩ := hQ160
  have N160 := Fr.app N143 N160q
  have ac161 : ∀ t, Steps p.tables e below (T160.setTop (mkF m 62 #[.val (.ref a1), .val (.int p2), .val (.ref a3), .val (.ref a4), .val .null, .val (.ref a6), .val (.ref a7), .val (.int p8), .val (.ref a9)] [(.int r160), (.ref a1)])) t → Steps p.tables e below (s₁.setTop (entryFrame m #[(.ref a1), (.int p2), (.ref a3), (.ref a4), .null, (.ref a6), (.ref a7), (.int p8), (.ref a9)] 9)) t := fun t k => ac159 t (st160 t k)
  obtain ⟨T162, h162, X162, e162, W162, st162⟩ := putFN X160 hx hZ hown (hw _ (List.mem_of_getElem? (i := 64) rfl)) Via.refl Qe160 Ff146 Ef144 (Or.inr ⟨(hw _ (List.mem_of_getElem? (i := 65) rfl)), rfl, hnm⟩) (hw _ (List.mem_of_getElem? (i := 30) rfl)) (ty := .boolean) (v' := (.int (nar .boolean r160))) (by decide) rfl (fits_nar_bool _) (g := (mkF m 62 #[.val (.ref a1), .val (.int p2), .val (.ref a3), .val (.ref a4), .val .null, .val (.ref a6), .val (.ref a7), .val (.int p8), .val (.ref a9)] [(.int r160), (.ref a1)])) rfl rfl (hb hby d6_62)
  have Fw162 := Ff146.same W162
  have Ef163 := Ef144.wr W162
  have Vf164 := Vf145.other W162 ne_a3_a1
  have Ef165 := Ef147.wr W162
  have Ff166 := Ff148.other W162 (Or.inl ne_a4_a1)
  have Ff167 := Ff149.other W162 (Or.inr (slot_ne (Or.inr (hw _ (List.mem_of_getElem? (i := 37) rfl))) (Or.inr (hw _ (List.mem_of_getElem? (i := 65) rfl))) (by decide) (t := .int) (t' := .boolean) (by decide) (by decide)))
  have Ff168 := Ff150.other W162 (Or.inr (slot_ne (Or.inr (hw _ (List.mem_of_getElem? (i := 39) rfl))) (Or.inr (hw _ (List.mem_of_getElem? (i := 65) rfl))) (by decide) (t := (.array .byte)) (t' := .boolean) (by decide) (by decide)))
  have Ff169 := Ff151.other W162 (Or.inr (slot_ne (Or.inr (hw _ (List.mem_of_getElem? (i := 48) rfl))) (Or.inr (hw _ (List.mem_of_getElem? (i := 65) rfl))) (by decide) (t := (.object "java/lang/String")) (t' := .boolean) (by decide) (by decide)))
  have Ff170 := Ff152.other W162 (Or.inr (slot_ne (Or.inr (hw _ (List.mem_of_getElem? (i := 50) rfl))) (Or.inr (hw _ (List.mem_of_getElem? (i := 65) rfl))) (by decide) (t := (.object "com/example/votal/votal/log/Template")) (t' := .boolean) (by decide) (by decide)))
  have Ff171 := Ff153.other W162 (Or.inr (slot_ne (Or.inr (hw _ (List.mem_of_getElem? (i := 52) rfl))) (Or.inr (hw _ (List.mem_of_getElem? (i := 65) rfl))) (by decide) (t := (.object "java/lang/String")) (t' := .boolean) (by decide) (by decide)))
  have Ff172 := Ff154.other W162 (Or.inr (slot_ne (Or.inr (hw _ (List.mem_of_getElem? (i := 54) rfl))) (Or.inr (hw _ (List.mem_of_getElem? (i := 65) rfl))) (by decide) (t := (.object "com/example/votal/votal/log/DigestAlgorithm")) (t' := .boolean) (by decide) (by decide)))
  have Ff173 := Ff155.other W162 (Or.inr (slot_ne (Or.inr (hw _ (List.mem_of_getElem? (i := 56) rfl))) (Or.inr (hw _ (List.mem_of_getElem? (i := 65) rfl))) (by decide) (t := (.array .byte)) (t' := .boolean) (by decide) (by decide)))
  have Ff174 := Ff156.other W162 (Or.inr (slot_ne (Or.inr (hw _ (List.mem_of_getElem? (i := 58) rfl))) (Or.inr (hw _ (List.mem_of_getElem? (i := 65) rfl))) (by decide) (t := .int) (t' := .boolean) (by decide) (by decide)))
  have Ff175 := Fw143.other W162 (Or.inr (slot_ne (Or.inr (hw _ (List.mem_of_getElem? (i := 60) rfl))) (Or.inr (hw _ (List.mem_of_getElem? (i := 65) rfl))) (by decide) (t := (.array .byte)) (t' := .boolean) (by decide) (by decide)))
  have N162 := Fr.snoc X162 N160 g_a1
  have Z162 : n0 ≤ h162.size := Nat.le_trans Z143 (Keep.of_wr W162).1
  have Kp176 : Keep h0 h162 [a1] := Kp157.wr W162 (Or.inl (List.mem_of_getElem? (i := 0) rfl))
  have ac177 : ∀ t, Steps p.tables e below (T162.setTop (mkF m 65 #[.val (.ref a1), .val (.int p2), .val (.ref a3), .val (.ref a4), .val .null, .val (.ref a6), .val (.ref a7), .val (.int p8), .val (.ref a9)] [])) t → Steps p.tables e below (s₁.setTop (entryFrame m #[(.ref a1), (.int p2), (.ref a3), (.ref a4), .null, (.ref a6), (.ref a7), (.int p8), (.ref a9)] 9)) t := fun t k => ac161 t (st162 t k)
  obtain ⟨fs, hr, hrun, hended, hW, hsame⟩ := X162.leave (v := none) (fun _ => rfl) (BodyLoose.notSynchronized Bd)
  refine ⟨_, _, ac177 _ ?_, hrun, hended, _, _, rfl, ?_, ⟨_, rfl⟩, hW, hsame.mono (by decide) (by decide)⟩
  · show Steps p.tables e below (T162.setTop (mkF m 65 #[.val (.ref a1), .val (.int p2), .val (.ref a3), .val (.ref a4), .val .null, .val (.ref a6), .val (.ref a7), .val (.int p8), .val (.ref a9)] [])) _
    exact X162.returnOut hx Bd.returns (hb hby d6_65) hr
  · show Q6 Z a1 p2 a3 a4 a6 a7 p8 a9 n1 f nm h0 n0 _ T162.heap _
    rw [e162]
    exact ⟨rfl, N162, Kp176, Ef163, Ff173⟩
theorem ef_rm11 (m : MethodId) (x0 : Addr) (x1 : Int32) (x2 : Addr) (x3 : Addr) (x4 : Addr) : entryFrame m #[(.ref x0), (.int x1), (.ref x2), (.ref x3), (.ref x4), .null] 6 = mkF m 0 #[.val (.ref x0), .val (.int x1), .val (.ref x2), .val (.ref x3), .val (.ref x4), .val .null] [] := by first | (simp [entryFrame, mkF, argsToLocals, Value.category]; done) | rfl
def Q11 (Z : State) (a1 : Addr) (p2 : Int32) (a3 : Addr) (a4 : Addr) (a5 : Addr) (n1 : Nat) (f : Nat → Value) (h0 : Heap) (n0 : Nat) (v : Option Value) (h : Heap) (L : List Loc) : Prop := v = none ∧ Fr n0 L ∧ Keep h0 h [a1] ∧ Exa Z h a1 "com/example/votal/votal/log/LogRecord" ∧ Fld Z h a1 "com/example/votal/votal/log/LogRecord" "mDigest" "[B" .null
set_option maxRecDepth 65536 in
set_option maxHeartbeats 40000000 in
theorem rm11 (l : Launch) (Z : State) (a0 : Array Value) (hw : ∀ d ∈ tables_1, d.before a0 Z = true) (ws : List Jvm.Cond) (a1 : Addr) (p2 : Int32) (a3 : Addr) (a4 : Addr) (a5 : Addr) (n1 : Nat) (f : Nat → Value) (h0 : Heap) (n0 : Nat) (Z0 : n0 ≤ h0.size) (E1 : Exa Z h0 a1 "com/example/votal/votal/log/LogRecord") (g_a1 : n0 ≤ a1) (V3 : own_Ar Z h0 a3 .byte n1 f) (hf : ∀ i, i < n1 → ∃ x : Int32, f i = .int x) (h1 : 1 ≤ n1) (ne_a3_a1 : a3 ≠ a1) (F_mPcr : Fld Z h0 a1 "com/example/votal/votal/log/LogRecord" "mPcr" "I" (.int 0)) (F_mTemplateDigest : Fld Z h0 a1 "com/example/votal/votal/log/LogRecord" "mTemplateDigest" "[B" .null) (F_mTemplateName : Fld Z h0 a1 "com/example/votal/votal/log/LogRecord" "mTemplateName" "Ljava/lang/String;" .null) (F_mTemplate : Fld Z h0 a1 "com/example/votal/votal/log/LogRecord" "mTemplate" "Lcom/example/votal/votal/log/Template;" .null) (F_mName : Fld Z h0 a1 "com/example/votal/votal/log/LogRecord" "mName" "Ljava/lang/String;" .null) (F_mDigestAlgorithm : Fld Z h0 a1 "com/example/votal/votal/log/LogRecord" "mDigestAlgorithm" "Lcom/example/votal/votal/log/DigestAlgorithm;" .null) (F_mDigest : Fld Z h0 a1 "com/example/votal/votal/log/LogRecord" "mDigest" "[B" .null) (F_mEventDataOffset : Fld Z h0 a1 "com/example/votal/votal/log/LogRecord" "mEventDataOffset" "I" (.int 0)) (F_mTemplateData : Fld Z h0 a1 "com/example/votal/votal/log/LogRecord" "mTemplateData" "[B" .null) (F_mViolation : Fld Z h0 a1 "com/example/votal/votal/log/LogRecord" "mViolation" "Z" (.int 0)) :
    MetFree l (⟨"com/example/votal/votal/log/LogRecord", "<init>", "(I[BLjava/lang/String;Ljava/lang/String;[B)V"⟩ : MethodName) (head1 (Jvm.Cond.code (⟨"com/example/votal/votal/log/LogRecord", "<init>", "(I[BLjava/lang/String;Ljava/lang/String;[B)V"⟩ : MethodName) prog_49_method_2_code 6 none :: ws) ({ frames := 1, cells := 0, slots := 0, locals := 18 } : Room)) (fun a U => a = #[(.ref a1), (.int p2), (.ref a3), (.ref a4), (.ref a5), .null] ∧ Z.Warmed39 U.vm ∧ U.heap = h0) (fun _ _ _ _ _ => True) (fun _ U o U' => ∃ v L, o = .returned v ∧ Q11 Z a1 p2 a3 a4 a5 n1 f h0 n0 v U'.heap L ∧ FrameEnd U o U' L ({ frames := 1, cells := 0, slots := 0, locals := 18 } : Room).cells ({ frames := 1, cells := 0, slots := 0, locals := 18 } : Room).slots) := by
  refine MetFree.of_bodySF (plainFor_of_name pn_11) hisR ?_
  intro p e s m args below meth c s₁ Bd hml0 hP hK
  obtain ⟨rfl, hZ, hh⟩ := hP
  have hx := Bd.exec
  have hby := Bd.bytes
  have hml : c.maxLocals = 6 := hml0
  have hown : s.vm.findClass "com/example/votal/votal/log/LogRecord" = some m.cls := findClass_of_methodNamed Bd.named
  have hnm := (name_of_methodNamed Bd.named Bd.method).1
  have X0 : Stand p l e ({ frames := 1, cells := 0, slots := 0, locals := 18 } : Room) s m #[(.ref a1), (.int p2), (.ref a3), (.ref a4), (.ref a5), .null] below meth c s₁ [] 0 0 := Stand.of_body Bd
  have e0 : s₁.heap = h0 := by rw [← hh, Bd.state]; rfl
  have N0 := Fr.nil n0
  have a0s : ∀ t, Steps p.tables e below (s₁.setTop (mkF m 0 #[.val (.ref a1), .val (.int p2), .val (.ref a3), .val (.ref a4), .val (.ref a5), .val .null] [])) t → Steps p.tables e below (s₁.setTop (entryFrame m #[(.ref a1), (.int p2), (.ref a3), (.ref a4), (.ref a5), .null] 6)) t := fun t k => castTop (ef_rm11 m a1 p2 a3 a4 a5) k
  have ac1 : ∀ t, Steps p.tables e below (s₁.setTop (mkF m 1 #[.val (.ref a1), .val (.int p2), .val (.ref a3), .val (.ref a4), .val (.ref a5), .val .null] [(.ref a1)])) t → Steps p.tables e below (s₁.setTop (entryFrame m #[(.ref a1), (.int p2), (.ref a3), (.ref a4), (.ref a5), .null] 6)) t := fun t k => a0s t (by
      show Steps p.tables e below (s₁.setTop (mkF m 0 #[.val (.ref a1), .val (.int p2), .val (.ref a3), .val (.ref a4), .val (.ref a5), .val .null] [])) _
      refine XS.aloadN X0.here hx rfl (hb hby d11_0) rfl rfl ?_
      exact k)
  obtain ⟨T2, X2, e2, st2⟩ := initO X0 hx hZ hown (hw _ (List.mem_of_getElem? (i := 35) rfl)) (hw _ (List.mem_of_getElem? (i := 20) rfl)) (hw _ (List.mem_of_getElem? (i := 21) rfl)) e0 (g := (mkF m 1 #[.val (.ref a1), .val (.int p2), .val (.ref a3), .val (.ref a4), .val (.ref a5), .val .null] [(.ref a1)])) rfl (by rw [hml]; rfl) rfl (hb hby d11_1) (by decide) (W := 0) (by show 2 * 0 + _ ≤ _; exact Nat.le_of_eq rfl) (by decide)
  have ac3 : ∀ t, Steps p.tables e below (T2.setTop (mkF m 4 #[.val (.ref a1), .val (.int p2), .val (.ref a3), .val (.ref a4), .val (.ref a5), .val .null] [])) t → Steps p.tables e below (s₁.setTop (entryFrame m #[(.ref a1), (.int p2), (.ref a3), (.ref a4), (.ref a5), .null] 6)) t := fun t k => ac1 t (st2 t k)
  have ac4 : ∀ t, Steps p.tables e below (T2.setTop (mkF m 6 #[.val (.ref a1), .val (.int p2), .val (.ref a3), .val (.ref a4), .val (.ref a5), .val .null] [(.int p2), (.ref a1)])) t → Steps p.tables e below (s₁.setTop (entryFrame m #[(.ref a1), (.int p2), (.ref a3), (.ref a4), (.ref a5), .null] 6)) t := fun t k => ac3 t (by
      show Steps p.tables e below (T2.setTop (mkF m 4 #[.val (.ref a1), .val (.int p2), .val (.ref a3), .val (.ref a4), .val (.ref a5), .val .null] [])) _
      refine XS.aloadN X2.here hx rfl (hb hby d11_4) rfl rfl ?_
      show Steps p.tables e below (T2.setTop (mkF m 5 #[.val (.ref a1), .val (.int p2), .val (.ref a3), .val (.ref a4), .val (.ref a5), .val .null] [(.ref a1)])) _
      refine XS.iloadN X2.here hx rfl (hb hby d11_5) rfl ?_
      exact k)
  obtain ⟨T5, h5, X5, e5, W5, st5⟩ := putF X2 hx hZ hown (host := "") (Or.inl (hw _ (List.mem_of_getElem? (i := 36) rfl))) Via.refl e2 F_mPcr E1 (Or.inr ⟨(hw _ (List.mem_of_getElem? (i := 37) rfl)), rfl, hnm⟩) (hw _ (List.mem_of_getElem? (i := 30) rfl)) (ty := .int) (by decide) rfl rfl (g := (mkF m 6 #[.val (.ref a1), .val (.int p2), .val (.ref a3), .val (.ref a4), .val (.ref a5), .val .null] [(.int p2), (.ref a1)])) rfl rfl (hb hby d11_6)
  have Fw5 := F_mPcr.same W5
  have Ef6 := E1.wr W5
  have Vf7 := V3.other W5 ne_a3_a1
  have Ff8 := F_mTemplateDigest.other W5 (Or.inr (slot_ne (Or.inr (hw _ (List.mem_of_getElem? (i := 39) rfl))) (Or.inr (hw _ (List.mem_of_getElem? (i := 37) rfl))) (by decide) (t := (.array .byte)) (t' := .int) (by decide) (by decide)))
  have Ff9 := F_mTemplateName.other W5 (Or.inr (slot_ne (Or.inr (hw _ (List.mem_of_getElem? (i := 48) rfl))) (Or.inr (hw _ (List.mem_of_getElem? (i := 37) rfl))) (by decide) (t := (.object "java/lang/String")) (t' := .int) (by decide) (by decide)))
  have Ff10 := F_mTemplate.other W5 (Or.inr (slot_ne (Or.inr (hw _ (List.mem_of_getElem? (i := 50) rfl))) (Or.inr (hw _ (List.mem_of_getElem? (i := 37) rfl))) (by decide) (t := (.object "com/example/votal/votal/log/Template")) (t' := .int) (by decide) (by decide)))
  have Ff11 := F_mName.other W5 (Or.inr (slot_ne (Or.inr (hw _ (List.mem_of_getElem? (i := 52) rfl))) (Or.inr (hw _ (List.mem_of_getElem? (i := 37) rfl))) (by decide) (t := (.object "java/lang/String")) (t' := .int) (by decide) (by decide)))
  have Ff12 := F_mDigestAlgorithm.other W5 (Or.inr (slot_ne (Or.inr (hw _ (List.mem_of_getElem? (i := 54) rfl))) (Or.inr (hw _ (List.mem_of_getElem? (i := 37) rfl))) (by decide) (t := (.object "com/example/votal/votal/log/DigestAlgorithm")) (t' := .int) (by decide) (by decide)))
  have Ff13 := F_mDigest.other W5 (Or.inr (slot_ne (Or.inr (hw _ (List.mem_of_getElem? (i := 56) rfl))) (Or.inr (hw _ (List.mem_of_getElem? (i := 37) rfl))) (by decide) (t := (.array .byte)) (t' := .int) (by decide) (by decide)))
  have Ff14 := F_mEventDataOffset.other W5 (Or.inr (slot_ne (Or.inr (hw _ (List.mem_of_getElem? (i := 58) rfl))) (Or.inr (hw _ (List.mem_of_getElem? (i := 37) rfl))) (by decide) (t := .int) (t' := .int) (by decide) (by decide)))
  have Ff15 := F_mTemplateData.other W5 (Or.inr (slot_ne (Or.inr (hw _ (List.mem_of_getElem? (i := 60) rfl))) (Or.inr (hw _ (List.mem_of_getElem? (i := 37) rfl))) (by decide) (t := (.array .byte)) (t' := .int) (by decide) (by decide)))
  have Ff16 := F_mViolation.other W5 (Or.inr (slot_ne (Or.inr (hw _ (List.mem_of_getElem? (i := 65) rfl))) (Or.inr (hw _ (List.mem_of_getElem? (i := 37) rfl))) (by decide) (t := .boolean) (t' := .int) (by decide) (by decide)))
  have N5 := Fr.snoc X5 N0 g_a1
  have Z5 : n0 ≤ h5.size := Nat.le_trans Z0 (Keep.of_wr W5).1
  have Kp17 : Keep h0 h5 [a1] := (Keep.refl h0 [a1]).wr W5 (Or.inl (List.mem_of_getElem? (i := 0) rfl))
  have ac18 : ∀ t, Steps p.tables e below (T5.setTop (mkF m 9 #[.val (.ref a1), .val (.int p2), .val (.ref a3), .val (.ref a4), .val (.ref a5), .val .null] [])) t → Steps p.tables e below (s₁.setTop (entryFrame m #[(.ref a1), (.int p2), (.ref a3), (.ref a4), (.ref a5), .null] 6)) t := fun t k => ac4 t (st5 t k)
  have ac19 : ∀ t, Steps p.tables e below (T5.setTop (mkF m 11 #[.val (.ref a1), .val (.int p2), .val (.ref a3), .val (.ref a4), .val (.ref a5), .val .null] [(.ref a3), (.ref a1)])) t → Steps p.tables e below (s₁.setTop (entryFrame m #[(.ref a1), (.int p2), (.ref a3), (.ref a4), (.ref a5), .null] 6)) t := fun t k => ac18 t (by
      show Steps p.tables e below (T5.setTop (mkF m 9 #[.val (.ref a1), .val (.int p2), .val (.ref a3), .val (.ref a4), .val (.ref a5), .val .null] [])) _
      refine XS.aloadN X5.here hx rfl (hb hby d11_9) rfl rfl ?_
      show Steps p.tables e below (T5.setTop (mkF m 10 #[.val (.ref a1), .val (.int p2), .val (.ref a3), .val (.ref a4), .val (.ref a5), .val .null] [(.ref a1)])) _
      refine XS.aloadN X5.here hx rfl (hb hby d11_10) rfl rfl ?_
      exact k)
  obtain ⟨T20, h20, X20, e20, W20, st20⟩ := putF X5 hx hZ hown (host := "") (Or.inl (hw _ (List.mem_of_getElem? (i := 38) rfl))) Via.refl e5 Ff8 Ef6 (Or.inr ⟨(hw _ (List.mem_of_getElem? (i := 39) rfl)), rfl, hnm⟩) (hw _ (List.mem_of_getElem? (i := 30) rfl)) (ty := (.array .byte)) (by decide) rfl rfl (g := (mkF m 11 #[.val (.ref a1), .val (.int p2), .val (.ref a3), .val (.ref a4), .val (.ref a5), .val .null] [(.ref a3), (.ref a1)])) rfl rfl (hb hby d11_11)
  have Fw20 := Ff8.same W20
  have Ef21 := Ef6.wr W20
  have Vf22 := Vf7.other W20 ne_a3_a1
  have Ff23 := Ff9.other W20 (Or.inr (slot_ne (Or.inr (hw _ (List.mem_of_getElem? (i := 48) rfl))) (Or.inr (hw _ (List.mem_of_getElem? (i := 39) rfl))) (by decide) (t := (.object "java/lang/String")) (t' := (.array .byte)) (by decide) (by decide)))
  have Ff24 := Ff10.other W20 (Or.inr (slot_ne (Or.inr (hw _ (List.mem_of_getElem? (i := 50) rfl))) (Or.inr (hw _ (List.mem_of_getElem? (i := 39) rfl))) (by decide) (t := (.object "com/example/votal/votal/log/Template")) (t' := (.array .byte)) (by decide) (by decide)))
  have Ff25 := Ff11.other W20 (Or.inr (slot_ne (Or.inr (hw _ (List.mem_of_getElem? (i := 52) rfl))) (Or.inr (hw _ (List.mem_of_getElem? (i := 39) rfl))) (by decide) (t := (.object "java/lang/String")) (t' := (.array .byte)) (by decide) (by decide)))
  have Ff26 := Ff12.other W20 (Or.inr (slot_ne (Or.inr (hw _ (List.mem_of_getElem? (i := 54) rfl))) (Or.inr (hw _ (List.mem_of_getElem? (i := 39) rfl))) (by decide) (t := (.object "com/example/votal/votal/log/DigestAlgorithm")) (t' := (.array .byte)) (by decide) (by decide)))
  have Ff27 := Ff13.other W20 (Or.inr (slot_ne (Or.inr (hw _ (List.mem_of_getElem? (i := 56) rfl))) (Or.inr (hw _ (List.mem_of_getElem? (i := 39) rfl))) (by decide) (t := (.array .byte)) (t' := (.array .byte)) (by decide) (by decide)))
  have Ff28 := Ff14.other W20 (Or.inr (slot_ne (Or.inr (hw _ (List.mem_of_getElem? (i := 58) rfl))) (Or.inr (hw _ (List.mem_of_getElem? (i := 39) rfl))) (by decide) (t := .int) (t' := (.array .byte)) (by decide) (by decide)))
  have Ff29 := Ff15.other W20 (Or.inr (slot_ne (Or.inr (hw _ (List.mem_of_getElem? (i := 60) rfl))) (Or.inr (hw _ (List.mem_of_getElem? (i := 39) rfl))) (by decide) (t := (.array .byte)) (t' := (.array .byte)) (by decide) (by decide)))
  have Ff30 := Ff16.other W20 (Or.inr (slot_ne (Or.inr (hw _ (List.mem_of_getElem? (i := 65) rfl))) (Or.inr (hw _ (List.mem_of_getElem? (i := 39) rfl))) (by decide) (t := .boolean) (t' := (.array .byte)) (by decide) (by decide)))
  have Ff31 := Fw5.other W20 (Or.inr (slot_ne (Or.inr (hw _ (List.mem_of_getElem? (i := 37) rfl))) (Or.inr (hw _ (List.mem_of_getElem? (i := 39) rfl))) (by decide) (t := .int) (t' := (.array .byte)) (by decide) (by decide)))
  have N20 := Fr.snoc X20 N5 g_a1
  have Z20 : n0 ≤ h20.size := Nat.le_trans Z5 (Keep.of_wr W20).1
  have Kp32 : Keep h0 h20 [a1] := Kp17.wr W20 (Or.inl (List.mem_of_getElem? (i := 0) rfl))
  have ac33 : ∀ t, Steps p.tables e below (T20.setTop (mkF m 14 #[.val (.ref a1), .val (.int p2), .val (.ref a3), .val (.ref a4), .val (.ref a5), .val .null] [])) t → Steps p.tables e below (s₁.setTop (entryFrame m #[(.ref a1), (.int p2), (.ref a3), (.ref a4), (.ref a5), .null] 6)) t := fun t k => ac19 t (st20 t k)
  have ac34 : ∀ t, Steps p.tables e below (T20.setTop (mkF m 16 #[.val (.ref a1), .val (.int p2), .val (.ref a3), .val (.ref a4), .val (.ref a5), .val .null] [(.ref a4), (.ref a1)])) t → Steps p.tables e below (s₁.setTop (entryFrame m #[(.ref a1), (.int p2), (.ref a3), (.ref a4), (.ref a5), .null] 6)) t := fun t k => ac33 t (by
      show Steps p.tables e below (T20.setTop (mkF m 14 #[.val (.ref a1), .val (.int p2), .val (.ref a3), .val (.ref a4), .val (.ref a5), .val .null] [])) _
      refine XS.aloadN X20.here hx rfl (hb hby d11_14) rfl rfl ?_
      show Steps p.tables e below (T20.setTop (mkF m 15 #[.val (.ref a1), .val (.int p2), .val (.ref a3), .val (.ref a4), .val (.ref a5), .val .null] [(.ref a1)])) _
      refine XS.aloadN X20.here hx rfl (hb hby d11_15) rfl rfl ?_
      exact k)
  obtain ⟨T35, h35, X35, e35, W35, st35⟩ := putF X20 hx hZ hown (host := "") (Or.inl (hw _ (List.mem_of_getElem? (i := 47) rfl))) Via.refl e20 Ff23 Ef21 (Or.inr ⟨(hw _ (List.mem_of_getElem? (i := 48) rfl)), rfl, hnm⟩) (hw _ (List.mem_of_getElem? (i := 30) rfl)) (ty := (.object "java/lang/String")) (by decide) rfl rfl (g := (mkF m 16 #[.val (.ref a1), .val (.int p2), .val (.ref a3), .val (.ref a4), .val (.ref a5), .val .null] [(.ref a4), (.ref a1)])) rfl rfl (hb hby d11_16)
  have Fw35 := Ff23.same W35
  have Ef36 := Ef21.wr W35
  have Vf37 := Vf22.other W35 ne_a3_a1
  have Ff38 := Ff24.other W35 (Or.inr (slot_ne (Or.inr (hw _ (List.mem_of_getElem? (i := 50) rfl))) (Or.inr (hw _ (List.mem_of_getElem? (i := 48) rfl))) (by decide) (t := (.object "com/example/votal/votal/log/Template")) (t' := (.object "java/lang/String")) (by decide) (by decide)))
  have Ff39 := Ff25.other W35 (Or.inr (slot_ne (Or.inr (hw _ (List.mem_of_getElem? (i := 52) rfl))) (Or.inr (hw _ (List.mem_of_getElem? (i := 48) rfl))) (by decide) (t := (.object "java/lang/String")) (t' := (.object "java/lang/String")) (by decide) (by decide)))
  have Ff40 := Ff26.other W35 (Or.inr (slot_ne (Or.inr (hw _ (List.mem_of_getElem? (i := 54) rfl))) (Or.inr (hw _ (List.mem_of_getElem? (i := 48) rfl))) (by decide) (t := (.object "com/example/votal/votal/log/DigestAlgorithm")) (t' := (.object "java/lang/String")) (by decide) (by decide)))
  have Ff41 := Ff27.other W35 (Or.inr (slot_ne (Or.inr (hw _ (List.mem_of_getElem? (i := 56) rfl))) (Or.inr (hw _ (List.mem_of_getElem? (i := 48) rfl))) (by decide) (t := (.array .byte)) (t' := (.object "java/lang/String")) (by decide) (by decide)))
  have Ff42 := Ff28.other W35 (Or.inr (slot_ne (Or.inr (hw _ (List.mem_of_getElem? (i := 58) rfl))) (Or.inr (hw _ (List.mem_of_getElem? (i := 48) rfl))) (by decide) (t := .int) (t' := (.object "java/lang/String")) (by decide) (by decide)))
  have Ff43 := Ff29.other W35 (Or.inr (slot_ne (Or.inr (hw _ (List.mem_of_getElem? (i := 60) rfl))) (Or.inr (hw _ (List.mem_of_getElem? (i := 48) rfl))) (by decide) (t := (.array .byte)) (t' := (.object "java/lang/String")) (by decide) (by decide)))
  have Ff44 := Ff30.other W35 (Or.inr (slot_ne (Or.inr (hw _ (List.mem_of_getElem? (i := 65) rfl))) (Or.inr (hw _ (List.mem_of_getElem? (i := 48) rfl))) (by decide) (t := .boolean) (t' := (.object "java/lang/String")) (by decide) (by decide)))
  have Ff45 := Ff31.other W35 (Or.inr (slot_ne (Or.inr (hw _ (List.mem_of_getElem? (i := 37) rfl))) (Or.inr (hw _ (List.mem_of_getElem? (i := 48) rfl))) (by decide) (t := .int) (t' := (.object "java/lang/String")) (by decide) (by decide)))
  have Ff46 := Fw20.other W35 (Or.inr (slot_ne (Or.inr (hw _ (List.mem_of_getElem? (i := 39) rfl))) (Or.inr (hw _ (List.mem_of_getElem? (i := 48) rfl))) (by decide) (t := (.array .byte)) (t' := (.object "java/lang/String")) (by decide) (by decide)))
  have N35 := Fr.snoc X35 N20 g_a1
  have Z35 : n0 ≤ h35.size := Nat.le_trans Z20 (Keep.of_wr W35).1
  have Kp47 : Keep h0 h35 [a1] := Kp32.wr W35 (Or.inl (List.mem_of_getElem? (i := 0) rfl))
  have ac48 : ∀ t, Steps p.tables e below (T35.setTop (mkF m 19 #[.val (.ref a1), .val (.int p2), .val (.ref a3), .val (.ref a4), .val (.ref a5), .val .null] [])) t → Steps p.tables e below (s₁.setTop (entryFrame m #[(.ref a1), (.int p2), (.ref a3), (.ref a4), (.ref a5), .null] 6)) t := fun t k => ac34 t (st35 t k)
  have ac49 : ∀ t, Steps p.tables e below (T35.setTop (mkF m 21 #[.val (.ref a1), .val (.int p2), .val (.ref a3), .val (.ref a4), .val (.ref a5), .val .null] [.null, (.ref a1)])) t → Steps p.tables e below (s₁.setTop (entryFrame m #[(.ref a1), (.int p2), (.ref a3), (.ref a4), (.ref a5), .null] 6)) t := fun t k => ac48 t (by
      show Steps p.tables e below (T35.setTop (mkF m 19 #[.val (.ref a1), .val (.int p2), .val (.ref a3), .val (.ref a4), .val (.ref a5), .val .null] [])) _
      refine XS.aloadN X35.here hx rfl (hb hby d11_19) rfl rfl ?_
      show Steps p.tables e below (T35.setTop (mkF m 20 #[.val (.ref a1), .val (.int p2), .val (.ref a3), .val (.ref a4), .val (.ref a5), .val .null] [(.ref a1)])) _
      refine XS.aconstNull X35.here hx rfl (hb hby d11_20) ?_
      exact k)
  obtain ⟨T50, h50, X50, e50, W50, st50⟩ := putF X35 hx hZ hown (host := "") (Or.inl (hw _ (List.mem_of_getElem? (i := 49) rfl))) Via.refl e35 Ff38 Ef36 (Or.inr ⟨(hw _ (List.mem_of_getElem? (i := 50) rfl)), rfl, hnm⟩) (hw _ (List.mem_of_getElem? (i := 30) rfl)) (ty := (.object "com/example/votal/votal/log/Template")) (by decide) rfl rfl (g := (mkF m 21 #[.val (.ref a1), .val (.int p2), .val (.ref a3), .val (.ref a4), .val (.ref a5), .val .null] [.null, (.ref a1)])) rfl rfl (hb hby d11_21)
  have Fw50 := Ff38.same W50
  have Ef51 := Ef36.wr W50
  have Vf52 := Vf37.other W50 ne_a3_a1
  have Ff53 := Ff39.other W50 (Or.inr (slot_ne (Or.inr (hw _ (List.mem_of_getElem? (i := 52) rfl))) (Or.inr (hw _ (List.mem_of_getElem? (i := 50) rfl))) (by decide) (t := (.object "java/lang/String")) (t' := (.object "com/example/votal/votal/log/Template")) (by decide) (by decide)))
  have Ff54 := Ff40.other W50 (Or.inr (slot_ne (Or.inr (hw _ (List.mem_of_getElem? (i := 54) rfl))) (Or.inr (hw _ (List.mem_of_getElem? (i := 50) rfl))) (by decide) (t := (.object "com/example/votal/votal/log/DigestAlgorithm")) (t' := (.object "com/example/votal/votal/log/Template")) (by decide) (by decide)))
  have Ff55 := Ff41.other W50 (Or.inr (slot_ne (Or.inr (hw _ (List.mem_of_getElem? (i := 56) rfl))) (Or.inr (hw _ (List.mem_of_getElem? (i := 50) rfl))) (by decide) (t := (.array .byte)) (t' := (.object "com/example/votal/votal/log/Template")) (by decide) (by decide)))
  have Ff56 := Ff42.other W50 (Or.inr (slot_ne (Or.inr (hw _ (List.mem_of_getElem? (i := 58) rfl))) (Or.inr (hw _ (List.mem_of_getElem? (i := 50) rfl))) (by decide) (t := .int) (t' := (.object "com/example/votal/votal/log/Template")) (by decide) (by decide)))
  have Ff57 := Ff43.other W50 (Or.inr (slot_ne (Or.inr (hw _ (List.mem_of_getElem? (i := 60) rfl))) (Or.inr (hw _ (List.mem_of_getElem? (i := 50) rfl))) (by decide) (t := (.array .byte)) (t' := (.object "com/example/votal/votal/log/Template")) (by decide) (by decide)))
  have Ff58 := Ff44.other W50 (Or.inr (slot_ne (Or.inr (hw _ (List.mem_of_getElem? (i := 65) rfl))) (Or.inr (hw _ (List.mem_of_getElem? (i := 50) rfl))) (by decide) (t := .boolean) (t' := (.object "com/example/votal/votal/log/Template")) (by decide) (by decide)))
  have Ff59 := Ff45.other W50 (Or.inr (slot_ne (Or.inr (hw _ (List.mem_of_getElem? (i := 37) rfl))) (Or.inr (hw _ (List.mem_of_getElem? (i := 50) rfl))) (by decide) (t := .int) (t' := (.object "com/example/votal/votal/log/Template")) (by decide) (by decide)))
  have Ff60 := Ff46.other W50 (Or.inr (slot_ne (Or.inr (hw _ (List.mem_of_getElem? (i := 39) rfl))) (Or.inr (hw _ (List.mem_of_getElem? (i := 50) rfl))) (by decide) (t := (.array .byte)) (t' := (.object "com/example/votal/votal/log/Template")) (by decide) (by decide)))
  have Ff61 := Fw35.other W50 (Or.inr (slot_ne (Or.inr (hw _ (List.mem_of_getElem? (i := 48) rfl))) (Or.inr (hw _ (List.mem_of_getElem? (i := 50) rfl))) (by decide) (t := (.object "java/lang/String")) (t' := (.object "com/example/votal/votal/log/Template")) (by decide) (by decide)))
  have N50 := Fr.snoc X50 N35 g_a1
  have Z50 : n0 ≤ h50.size := Nat.le_trans Z35 (Keep.of_wr W50).1
  have Kp62 : Keep h0 h50 [a1] := Kp47.wr W50 (Or.inl (List.mem_of_getElem? (i := 0) rfl))
  have ac63 : ∀ t, Steps p.tables e below (T50.setTop (mkF m 24 #[.val (.ref a1), .val (.int p2), .val (.ref a3), .val (.ref a4), .val (.ref a5), .val .null] [])) t → Steps p.tables e below (s₁.setTop (entryFrame m #[(.ref a1), (.int p2), (.ref a3), (.ref a4), (.ref a5), .null] 6)) t := fun t k => ac49 t (st50 t k)
  have ac64 : ∀ t, Steps p.tables e below (T50.setTop (mkF m 27 #[.val (.ref a1), .val (.int p2), .val (.ref a3), .val (.ref a4), .val (.ref a5), .val .null] [(.ref a5), (.ref a1)])) t → Steps p.tables e below (s₁.setTop (entryFrame m #[(.ref a1), (.int p2), (.ref a3), (.ref a4), (.ref a5), .null] 6)) t := fun t k => ac63 t (by
      show Steps p.tables e below (T50.setTop (mkF m 24 #[.val (.ref a1), .val (.int p2), .val (.ref a3), .val (.ref a4), .val (.ref a5), .val .null] [])) _
      refine XS.aloadN X50.here hx rfl (hb hby d11_24) rfl rfl ?_
      show Steps p.tables e below (T50.setTop (mkF m 25 #[.val (.ref a1), .val (.int p2), .val (.ref a3), .val (.ref a4), .val (.ref a5), .val .null] [(.ref a1)])) _
      refine XS.aload X50.here hx rfl (hb hby d11_25) rfl rfl ?_
      exact k)
  obtain ⟨T65, h65, X65, e65, W65, st65⟩ := putF X50 hx hZ hown (host := "") (Or.inl (hw _ (List.mem_of_getElem? (i := 51) rfl))) Via.refl e50 Ff53 Ef51 (Or.inr ⟨(hw _ (List.mem_of_getElem? (i := 52) rfl)), rfl, hnm⟩) (hw _ (List.mem_of_getElem? (i := 30) rfl)) (ty := (.object "java/lang/String")) (by decide) rfl rfl (g := (mkF m 27 #[.val (.ref a1), .val (.int p2), .val (.ref a3), .val (.ref a4), .val (.ref a5), .val .null] [(.ref a5), (.ref a1)])) rfl rfl (hb hby d11_27)
  have Fw65 := Ff53.same W65
  have Ef66 := Ef51.wr W65
  have Vf67 := Vf52.other W65 ne_a3_a1
  have Ff68 := Ff54.other W65 (Or.inr (slot_ne (Or.inr (hw _ (List.mem_of_getElem? (i := 54) rfl))) (Or.inr (hw _ (List.mem_of_getElem? (i := 52) rfl))) (by decide) (t := (.object "com/example/votal/votal/log/DigestAlgorithm")) (t' := (.object "java/lang/String")) (by decide) (by decide)))
  have Ff69 := Ff55.other W65 (Or.inr (slot_ne (Or.inr (hw _ (List.mem_of_getElem? (i := 56) rfl))) (Or.inr (hw _ (List.mem_of_getElem? (i := 52) rfl))) (by decide) (t := (.array .byte)) (t' := (.object "java/lang/String")) (by decide) (by decide)))
  have Ff70 := Ff56.other W65 (Or.inr (slot_ne (Or.inr (hw _ (List.mem_of_getElem? (i := 58) rfl))) (Or.inr (hw _ (List.mem_of_getElem? (i := 52) rfl))) (by decide) (t := .int) (t' := (.object "java/lang/String")) (by decide) (by decide)))
  have Ff71 := Ff57.other W65 (Or.inr (slot_ne (Or.inr (hw _ (List.mem_of_getElem? (i := 60) rfl))) (Or.inr (hw _ (List.mem_of_getElem? (i := 52) rfl))) (by decide) (t := (.array .byte)) (t' := (.object "java/lang/String")) (by decide) (by decide)))
  have Ff72 := Ff58.other W65 (Or.inr (slot_ne (Or.inr (hw _ (List.mem_of_getElem? (i := 65) rfl))) (Or.inr (hw _ (List.mem_of_getElem? (i := 52) rfl))) (by decide) (t := .boolean) (t' := (.object "java/lang/String")) (by decide) (by decide)))
  have Ff73 := Ff59.other W65 (Or.inr (slot_ne (Or.inr (hw _ (List.mem_of_getElem? (i := 37) rfl))) (Or.inr (hw _ (List.mem_of_getElem? (i := 52) rfl))) (by decide) (t := .int) (t' := (.object "java/lang/String")) (by decide) (by decide)))
  have Ff74 := Ff60.other W65 (Or.inr (slot_ne (Or.inr (hw _ (List.mem_of_getElem? (i := 39) rfl))) (Or.inr (hw _ (List.mem_of_getElem? (i := 52) rfl))) (by decide) (t := (.array .byte)) (t' := (.object "java/lang/String")) (by decide) (by decide)))
  have Ff75 := Ff61.other W65 (Or.inr (slot_ne (Or.inr (hw _ (List.mem_of_getElem? (i := 48) rfl))) (Or.inr (hw _ (List.mem_of_getElem? (i := 52) rfl))) (by decide) (t := (.object "java/lang/String")) (t' := (.object "java/lang/String")) (by decide) (by decide)))
  have Ff76 := Fw50.other W65 (Or.inr (slot_ne (Or.inr (hw _ (List.mem_of_getElem? (i := 50) rfl))) (Or.inr (hw _ (List.mem_of_getElem? (i := 52) rfl))) (by decide) (t := (.object "com/example/votal/votal/log/Template")) (t' := (.object "java/lang/String")) (by decide) (by decide)))
  have N65 := Fr.snoc X65 N50 g_a1
  have Z65 : n0 ≤ h65.size := Nat.le_trans Z50 (Keep.of_wr W65).1
  have Kp77 : Keep h0 h65 [a1] := Kp62.wr W65 (Or.inl (List.mem_of_getElem? (i := 0) rfl))
  have ac78 : ∀ t, Steps p.tables e below (T65.setTop (mkF m 30 #[.val (.ref a1), .val (.int p2), .val (.ref a3), .val (.ref a4), .val (.ref a5), .val .null] [])) t → Steps p.tables e below (s₁.setTop (entryFrame m #[(.ref a1), (.int p2), (.ref a3), (.ref a4), (.ref a5), .null] 6)) t := fun t k => ac64 t (st65 t k)
  have ac79 : ∀ t, Steps p.tables e below (T65.setTop (mkF m 32 #[.val (.ref a1), .val (.int p2), .val (.ref a3), .val (.ref a4), .val (.ref a5), .val .null] [.null, (.ref a1)])) t → Steps p.tables e below (s₁.setTop (entryFrame m #[(.ref a1), (.int p2), (.ref a3), (.ref a4), (.ref a5), .null] 6)) t := fun t k => ac78 t (by
      show Steps p.tables e below (T65.setTop (mkF m 30 #[.val (.ref a1), .val (.int p2), .val (.ref a3), .val (.ref a4), .val (.ref a5), .val .null] [])) _
      refine XS.aloadN X65.here hx rfl (hb hby d11_30) rfl rfl ?_
      show Steps p.tables e below (T65.setTop (mkF m 31 #[.val (.ref a1), .val (.int p2), .val (.ref a3), .val (.ref a4), .val (.ref a5), .val .null] [(.ref a1)])) _
      refine XS.aconstNull X65.here hx rfl (hb hby d11_31) ?_
      exact k)
  obtain ⟨T80, h80, X80, e80, W80, st80⟩ := putF X65 hx hZ hown (host := "") (Or.inl (hw _ (List.mem_of_getElem? (i := 53) rfl))) Via.refl e65 Ff68 Ef66 (Or.inr ⟨(hw _ (List.mem_of_getElem? (i := 54) rfl)), rfl, hnm⟩) (hw _ (List.mem_of_getElem? (i := 30) rfl)) (ty := (.object "com/example/votal/votal/log/DigestAlgorithm")) (by decide) rfl rfl (g := (mkF m 32 #[.val (.ref a1), .val (.int p2), .val (.ref a3), .val (.ref a4), .val (.ref a5), .val .null] [.null, (.ref a1)])) rfl rfl (hb hby d11_32)
  have Fw80 := Ff68.same W80
  have Ef81 := Ef66.wr W80
  have Vf82 := Vf67.other W80 ne_a3_a1
  have Ff83 := Ff69.other W80 (Or.inr (slot_ne (Or.inr (hw _ (List.mem_of_getElem? (i := 56) rfl))) (Or.inr (hw _ (List.mem_of_getElem? (i := 54) rfl))) (by decide) (t := (.array .byte)) (t' := (.object "com/example/votal/votal/log/DigestAlgorithm")) (by decide) (by decide)))
  have Ff84 := Ff70.other W80 (Or.inr (slot_ne (Or.inr (hw _ (List.mem_of_getElem? (i := 58) rfl))) (Or.inr (hw _ (List.mem_of_getElem? (i := 54) rfl))) (by decide) (t := .int) (t' := (.object "com/example/votal/votal/log/DigestAlgorithm")) (by decide) (by decide)))
  have Ff85 := Ff71.other W80 (Or.inr (slot_ne (Or.inr (hw _ (List.mem_of_getElem? (i := 60) rfl))) (Or.inr (hw _ (List.mem_of_getElem? (i := 54) rfl))) (by decide) (t := (.array .byte)) (t' := (.object "com/example/votal/votal/log/DigestAlgorithm")) (by decide) (by decide)))
  have Ff86 := Ff72.other W80 (Or.inr (slot_ne (Or.inr (hw _ (List.mem_of_getElem? (i := 65) rfl))) (Or.inr (hw _ (List.mem_of_getElem? (i := 54) rfl))) (by decide) (t := .boolean) (t' := (.object "com/example/votal/votal/log/DigestAlgorithm")) (by decide) (by decide)))
  have Ff87 := Ff73.other W80 (Or.inr (slot_ne (Or.inr (hw _ (List.mem_of_getElem? (i := 37) rfl))) (Or.inr (hw _ (List.mem_of_getElem? (i := 54) rfl))) (by decide) (t := .int) (t' := (.object "com/example/votal/votal/log/DigestAlgorithm")) (by decide) (by decide)))
  have Ff88 := Ff74.other W80 (Or.inr (slot_ne (Or.inr (hw _ (List.mem_of_getElem? (i := 39) rfl))) (Or.inr (hw _ (List.mem_of_getElem? (i := 54) rfl))) (by decide) (t := (.array .byte)) (t' := (.object "com/example/votal/votal/log/DigestAlgorithm")) (by decide) (by decide)))
  have Ff89 := Ff75.other W80 (Or.inr (slot_ne (Or.inr (hw _ (List.mem_of_getElem? (i := 48) rfl))) (Or.inr (hw _ (List.mem_of_getElem? (i := 54) rfl))) (by decide) (t := (.object "java/lang/String")) (t' := (.object "com/example/votal/votal/log/DigestAlgorithm")) (by decide) (by decide)))
  have Ff90 := Ff76.other W80 (Or.inr (slot_ne (Or.inr (hw _ (List.mem_of_getElem? (i := 50) rfl))) (Or.inr (hw _ (List.mem_of_getElem? (i := 54) rfl))) (by decide) (t := (.object "com/example/votal/votal/log/Template")) (t' := (.object "com/example/votal/votal/log/DigestAlgorithm")) (by decide) (by decide)))
  have Ff91 := Fw65.other W80 (Or.inr (slot_ne (Or.inr (hw _ (List.mem_of_getElem? (i := 52) rfl))) (Or.inr (hw _ (List.mem_of_getElem? (i := 54) rfl))) (by decide) (t := (.object "java/lang/String")) (t' := (.object "com/example/votal/votal/log/DigestAlgorithm")) (by decide) (by decide)))
  have N80 := Fr.snoc X80 N65 g_a1
  have Z80 : n0 ≤ h80.size := Nat.le_trans Z65 (Keep.of_wr W80).1
  have Kp92 : Keep h0 h80 [a1] := Kp77.wr W80 (Or.inl (List.mem_of_getElem? (i := 0) rfl))
  have ac93 : ∀ t, Steps p.tables e below (T80.setTop (mkF m 35 #[.val (.ref a1), .val (.int p2), .val (.ref a3), .val (.ref a4), .val (.ref a5), .val .null] [])) t → Steps p.tables e below (s₁.setTop (entryFrame m #[(.ref a1), (.int p2), (.ref a3), (.ref a4), (.ref a5), .null] 6)) t := fun t k => ac79 t (st80 t k)
  have ac94 : ∀ t, Steps p.tables e below (T80.setTop (mkF m 37 #[.val (.ref a1), .val (.int p2), .val (.ref a3), .val (.ref a4), .val (.ref a5), .val .null] [.null, (.ref a1)])) t → Steps p.tables e below (s₁.setTop (entryFrame m #[(.ref a1), (.int p2), (.ref a3), (.ref a4), (.ref a5), .null] 6)) t := fun t k => ac93 t (by
      show Steps p.tables e below (T80.setTop (mkF m 35 #[.val (.ref a1), .val (.int p2), .val (.ref a3), .val (.ref a4), .val (.ref a5), .val .null] [])) _
      refine XS.aloadN X80.here hx rfl (hb hby d11_35) rfl rfl ?_
      show Steps p.tables e below (T80.setTop (mkF m 36 #[.val (.ref a1), .val (.int p2), .val (.ref a3), .val (.ref a4), .val (.ref a5), .val .null] [(.ref a1)])) _
      refine XS.aconstNull X80.here hx rfl (hb hby d11_36) ?_
      exact k)
  obtain ⟨T95, h95, X95, e95, W95, st95⟩ := putF X80 hx hZ hown (host := "") (Or.inl (hw _ (List.mem_of_getElem? (i := 55) rfl))) Via.refl e80 Ff83 Ef81 (Or.inr ⟨(hw _ (List.mem_of_getElem? (i := 56) rfl)), rfl, hnm⟩) (hw _ (List.mem_of_getElem? (i := 30) rfl)) (ty := (.array .byte)) (by decide) rfl rfl (g := (mkF m 37 #[.val (.ref a1), .val (.int p2), .val (.ref a3), .val (.ref a4), .val (.ref a5), .val .null] [.null, (.ref a1)])) rfl rfl (hb hby d11_37)
  have Fw95 := Ff83.same W95
  have Ef96 := Ef81.wr W95
  have Vf97 := Vf82.other W95 ne_a3_a1
  have Ff98 := Ff84.other W95 (Or.inr (slot_ne (Or.inr (hw _ (List.mem_of_getElem? (i := 58) rfl))) (Or.inr (hw _ (List.mem_of_getElem? (i := 56) rfl))) (by decide) (t := .int) (t' := (.array .byte)) (by decide) (by decide)))
  have Ff99 := Ff85.other W95 (Or.inr (slot_ne (Or.inr (hw _ (List.mem_of_getElem? (i := 60) rfl))) (Or.inr (hw _ (List.mem_of_getElem? (i := 56) rfl))) (by decide) (t := (.array .byte)) (t' := (.array .byte)) (by decide) (by decide)))
  have Ff100 := Ff86.other W95 (Or.inr (slot_ne (Or.inr (hw _ (List.mem_of_getElem? (i := 65) rfl))) (Or.inr (hw _ (List.mem_of_getElem? (i := 56) rfl))) (by decide) (t := .boolean) (t' := (.array .byte)) (by decide) (by decide)))
  have Ff101 := Ff87.other W95 (Or.inr (slot_ne (Or.inr (hw _ (List.mem_of_getElem? (i := 37) rfl))) (Or.inr (hw _ (List.mem_of_getElem? (i := 56) rfl))) (by decide) (t := .int) (t' := (.array .byte)) (by decide) (by decide)))
  have Ff102 := Ff88.other W95 (Or.inr (slot_ne (Or.inr (hw _ (List.mem_of_getElem? (i := 39) rfl))) (Or.inr (hw _ (List.mem_of_getElem? (i := 56) rfl))) (by decide) (t := (.array .byte)) (t' := (.array .byte)) (by decide) (by decide)))
  have Ff103 := Ff89.other W95 (Or.inr (slot_ne (Or.inr (hw _ (List.mem_of_getElem? (i := 48) rfl))) (Or.inr (hw _ (List.mem_of_getElem? (i := 56) rfl))) (by decide) (t := (.object "java/lang/String")) (t' := (.array .byte)) (by decide) (by decide)))
  have Ff104 := Ff90.other W95 (Or.inr (slot_ne (Or.inr (hw _ (List.mem_of_getElem? (i := 50) rfl))) (Or.inr (hw _ (List.mem_of_getElem? (i := 56) rfl))) (by decide) (t := (.object "com/example/votal/votal/log/Template")) (t' := (.array .byte)) (by decide) (by decide)))
  have Ff105 := Ff91.other W95 (Or.inr (slot_ne (Or.inr (hw _ (List.mem_of_getElem? (i := 52) rfl))) (Or.inr (hw _ (List.mem_of_getElem? (i := 56) rfl))) (by decide) (t := (.object "java/lang/String")) (t' := (.array .byte)) (by decide) (by decide)))
  have Ff106 := Fw80.other W95 (Or.inr (slot_ne (Or.inr (hw _ (List.mem_of_getElem? (i := 54) rfl))) (Or.inr (hw _ (List.mem_of_getElem? (i := 56) rfl))) (by decide) (t := (.object "com/example/votal/votal/log/DigestAlgorithm")) (t' := (.array .byte)) (by decide) (by decide)))
  have N95 := Fr.snoc X95 N80 g_a1
  have Z95 : n0 ≤ h95.size := Nat.le_trans Z80 (Keep.of_wr W95).1
  have Kp107 : Keep h0 h95 [a1] := Kp92.wr W95 (Or.inl (List.mem_of_getElem? (i := 0) rfl))
  have ac108 : ∀ t, Steps p.tables e below (T95.setTop (mkF m 40 #[.val (.ref a1), .val (.int p2), .val (.ref a3), .val (.ref a4), .val (.ref a5), .val .null] [])) t → Steps p.tables e below (s₁.setTop (entryFrame m #[(.ref a1), (.int p2), (.ref a3), (.ref a4), (.ref a5), .null] 6)) t := fun t k => ac94 t (st95 t k)
  have ac109 : ∀ t, Steps p.tables e below (T95.setTop (mkF m 42 #[.val (.ref a1), .val (.int p2), .val (.ref a3), .val (.ref a4), .val (.ref a5), .val .null] [(.int (-1 : Int32)), (.ref a1)])) t → Steps p.tables e below (s₁.setTop (entryFrame m #[(.ref a1), (.int p2), (.ref a3), (.ref a4), (.ref a5), .null] 6)) t := fun t k => ac108 t (by
      show Steps p.tables e below (T95.setTop (mkF m 40 #[.val (.ref a1), .val (.int p2), .val (.ref a3), .val (.ref a4), .val (.ref a5), .val .null] [])) _
      refine XS.aloadN X95.here hx rfl (hb hby d11_40) rfl rfl ?_
      show Steps p.tables e below (T95.setTop (mkF m 41 #[.val (.ref a1), .val (.int p2), .val (.ref a3), .val (.ref a4), .val (.ref a5), .val .null] [(.ref a1)])) _
      refine XS.iconst X95.here hx rfl (hb hby d11_41) ?_
      exact k)
  obtain ⟨T110, h110, X110, e110, W110, st110⟩ := putF X95 hx hZ hown (host := "") (Or.inl (hw _ (List.mem_of_getElem? (i := 57) rfl))) Via.refl e95 Ff98 Ef96 (Or.inr ⟨(hw _ (List.mem_of_getElem? (i := 58) rfl)), rfl, hnm⟩) (hw _ (List.mem_of_getElem? (i := 30) rfl)) (ty := .int) (by decide) rfl rfl (g := (mkF m 42 #[.val (.ref a1), .val (.int p2), .val (.ref a3), .val (.ref a4), .val (.ref a5), .val .null] [(.int (-1 : Int32)), (.ref a1)])) rfl rfl (hb hby d11_42)
  have Fw110 := Ff98.same W110
  have Ef111 := Ef96.wr W110
  have Vf112 := Vf97.other W110 ne_a3_a1
  have Ff113 := Ff99.other W110 (Or.inr (slot_ne (Or.inr (hw _ (List.mem_of_getElem? (i := 60) rfl))) (Or.inr (hw _ (List.mem_of_getElem? (i := 58) rfl))) (by decide) (t := (.array .byte)) (t' := .int) (by decide) (by decide)))
  have Ff114 := Ff100.other W110 (Or.inr (slot_ne (Or.inr (hw _ (List.mem_of_getElem? (i := 65) rfl))) (Or.inr (hw _ (List.mem_of_getElem? (i := 58) rfl))) (by decide) (t := .boolean) (t' := .int) (by decide) (by decide)))
  have Ff115 := Ff101.other W110 (Or.inr (slot_ne (Or.inr (hw _ (List.mem_of_getElem? (i := 37) rfl))) (Or.inr (hw _ (List.mem_of_getElem? (i := 58) rfl))) (by decide) (t := .int) (t' := .int) (by decide) (by decide)))
  have Ff116 := Ff102.other W110 (Or.inr (slot_ne (Or.inr (hw _ (List.mem_of_getElem? (i := 39) rfl))) (Or.inr (hw _ (List.mem_of_getElem? (i := 58) rfl))) (by decide) (t := (.array .byte)) (t' := .int) (by decide) (by decide)))
  have Ff117 := Ff103.other W110 (Or.inr (slot_ne (Or.inr (hw _ (List.mem_of_getElem? (i := 48) rfl))) (Or.inr (hw _ (List.mem_of_getElem? (i := 58) rfl))) (by decide) (t := (.object "java/lang/String")) (t' := .int) (by decide) (by decide)))
  have Ff118 := Ff104.other W110 (Or.inr (slot_ne (Or.inr (hw _ (List.mem_of_getElem? (i := 50) rfl))) (Or.inr (hw _ (List.mem_of_getElem? (i := 58) rfl))) (by decide) (t := (.object "com/example/votal/votal/log/Template")) (t' := .int) (by decide) (by decide)))
  have Ff119 := Ff105.other W110 (Or.inr (slot_ne (Or.inr (hw _ (List.mem_of_getElem? (i := 52) rfl))) (Or.inr (hw _ (List.mem_of_getElem? (i := 58) rfl))) (by decide) (t := (.object "java/lang/String")) (t' := .int) (by decide) (by decide)))
  have Ff120 := Ff106.other W110 (Or.inr (slot_ne (Or.inr (hw _ (List.mem_of_getElem? (i := 54) rfl))) (Or.inr (hw _ (List.mem_of_getElem? (i := 58) rfl))) (by decide) (t := (.object "com/example/votal/votal/log/DigestAlgorithm")) (t' := .int) (by decide) (by decide)))
  have Ff121 := Fw95.other W110 (Or.inr (slot_ne (Or.inr (hw _ (List.mem_of_getElem? (i := 56) rfl))) (Or.inr (hw _ (List.mem_of_getElem? (i := 58) rfl))) (by decide) (t := (.array .byte)) (t' := .int) (by decide) (by decide)))
  have N110 := Fr.snoc X110 N95 g_a1
  have Z110 : n0 ≤ h110.size := Nat.le_trans Z95 (Keep.of_wr W110).1
  have Kp122 : Keep h0 h110 [a1] := Kp107.wr W110 (Or.inl (List.mem_of_getElem? (i := 0) rfl))
  have ac123 : ∀ t, Steps p.tables e below (T110.setTop (mkF m 45 #[.val (.ref a1), .val (.int p2), .val (.ref a3), .val (.ref a4), .val (.ref a5), .val .null] [])) t → Steps p.tables e below (s₁.setTop (entryFrame m #[(.ref a1), (.int p2), (.ref a3), (.ref a4), (.ref a5), .null] 6)) t := fun t k => ac109 t (st110 t k)
  have ac124 : ∀ t, Steps p.tables e below (T110.setTop (mkF m 48 #[.val (.ref a1), .val (.int p2), .val (.ref a3), .val (.ref a4), .val (.ref a5), .val .null] [.null, (.ref a1)])) t → Steps p.tables e below (s₁.setTop (entryFrame m #[(.ref a1), (.int p2), (.ref a3), (.ref a4), (.ref a5), .null] 6)) t := fun t k => ac123 t (by
      show Steps p.tables e below (T110.setTop (mkF m 45 #[.val (.ref a1), .val (.int p2), .val (.ref a3), .val (.ref a4), .val (.ref a5), .val .null] [])) _
      refine XS.aloadN X110.here hx rfl (hb hby d11_45) rfl rfl ?_
      show Steps p.tables e below (T110.setTop (mkF m 46 #[.val (.ref a1), .val (.int p2), .val (.ref a3), .val (.ref a4), .val (.ref a5), .val .null] [(.ref a1)])) _
      refine XS.aload X110.here hx rfl (hb hby d11_46) rfl rfl ?_
      exact k)
  obtain ⟨T125, h125, X125, e125, W125, st125⟩ := putF X110 hx hZ hown (host := "") (Or.inl (hw _ (List.mem_of_getElem? (i := 59) rfl))) Via.refl e110 Ff113 Ef111 (Or.inr ⟨(hw _ (List.mem_of_getElem? (i := 60) rfl)), rfl, hnm⟩) (hw _ (List.mem_of_getElem? (i := 30) rfl)) (ty := (.array .byte)) (by decide) rfl rfl (g := (mkF m 48 #[.val (.ref a1), .val (.int p2), .val (.ref a3), .val (.ref a4), .val (.ref a5), .val .null] [.null, (.ref a1)])) rfl rfl (hb hby d11_48)
  have Fw125 := Ff113.same W125
  have Ef126 := Ef111.wr W125
  have Vf127 := Vf112.other W125 ne_a3_a1
  have Ff128 := Ff114.other W125 (Or.inr (slot_ne (Or.inr (hw _ (List.mem_of_getElem? (i := 65) rfl))) (Or.inr (hw _ (List.mem_of_getElem? (i := 60) rfl))) (by decide) (t := .boolean) (t' := (.array .byte)) (by decide) (by decide)))
  have Ff129 := Ff115.other W125 (Or.inr (slot_ne (Or.inr (hw _ (List.mem_of_getElem? (i := 37) rfl))) (Or.inr (hw _ (List.mem_of_getElem? (i := 60) rfl))) (by decide) (t := .int) (t' := (.array .byte)) (by decide) (by decide)))
  have Ff130 := Ff116.other W125 (Or.inr (slot_ne (Or.inr (hw _ (List.mem_of_getElem? (i := 39) rfl))) (Or.inr (hw _ (List.mem_of_getElem? (i := 60) rfl))) (by decide) (t := (.array .byte)) (t' := (.array .byte)) (by decide) (by decide)))
  have Ff131 := Ff117.other W125 (Or.inr (slot_ne (Or.inr (hw _ (List.mem_of_getElem? (i := 48) rfl))) (Or.inr (hw _ (List.mem_of_getElem? (i := 60) rfl))) (by decide) (t := (.object "java/lang/String")) (t' := (.array .byte)) (by decide) (by decide)))
  have Ff132 := Ff118.other W125 (Or.inr (slot_ne (Or.inr (hw _ (List.mem_of_getElem? (i := 50) rfl))) (Or.inr (hw _ (List.mem_of_getElem? (i := 60) rfl))) (by decide) (t := (.object "com/example/votal/votal/log/Template")) (t' := (.array .byte)) (by decide) (by decide)))
  have Ff133 := Ff119.other W125 (Or.inr (slot_ne (Or.inr (hw _ (List.mem_of_getElem? (i := 52) rfl))) (Or.inr (hw _ (List.mem_of_getElem? (i := 60) rfl))) (by decide) (t := (.object "java/lang/String")) (t' := (.array .byte)) (by decide) (by decide)))
  have Ff134 := Ff120.other W125 (Or.inr (slot_ne (Or.inr (hw _ (List.mem_of_getElem? (i := 54) rfl))) (Or.inr (hw _ (List.mem_of_getElem? (i := 60) rfl))) (by decide) (t := (.object "com/example/votal/votal/log/DigestAlgorithm")) (t' := (.array .byte)) (by decide) (by decide)))
  have Ff135 := Ff121.other W125 (Or.inr (slot_ne (Or.inr (hw _ (List.mem_of_getElem? (i := 56) rfl))) (Or.inr (hw _ (List.mem_of_getElem? (i := 60) rfl))) (by decide) (t := (.array .byte)) (t' := (.array .byte)) (by decide) (by decide)))
  have Ff136 := Fw110.other W125 (Or.inr (slot_ne (Or.inr (hw _ (List.mem_of_getElem? (i := 58) rfl))) (Or.inr (hw _ (List.mem_of_getElem? (i := 60) rfl))) (by decide) (t := .int) (t' := (.array .byte)) (by decide) (by decide)))
  have N125 := Fr.snoc X125 N110 g_a1
  have Z125 : n0 ≤ h125.size := Nat.le_trans Z110 (Keep.of_wr W125).1
  have Kp137 : Keep h0 h125 [a1] := Kp122.wr W125 (Or.inl (List.mem_of_getElem? (i := 0) rfl))
  have ac138 : ∀ t, Steps p.tables e below (T125.setTop (mkF m 51 #[.val (.ref a1), .val (.int p2), .val (.ref a3), .val (.ref a4), .val (.ref a5), .val .null] [])) t → Steps p.tables e below (s₁.setTop (entryFrame m #[(.ref a1), (.int p2), (.ref a3), (.ref a4), (.ref a5), .null] 6)) t := fun t k => ac124 t (st125 t k)
  have ac139 : ∀ t, Steps p.tables e below (T125.setTop (mkF m 53 #[.val (.ref a1), .val (.int p2), .val (.ref a3), .val (.ref a4), .val (.ref a5), .val .null] [(.ref a3), (.ref a1)])) t → Steps p.tables e below (s₁.setTop (entryFrame m #[(.ref a1), (.int p2), (.ref a3), (.ref a4), (.ref a5), .null] 6)) t := fun t k => ac138 t (by
      show Steps p.tables e below (T125.setTop (mkF m 51 #[.val (.ref a1), .val (.int p2), .val (.ref a3), .val (.ref a4), .val (.ref a5), .val .null] [])) _
      refine XS.aloadN X125.here hx rfl (hb hby d11_51) rfl rfl ?_
      show Steps p.tables e below (T125.setTop (mkF m 52 #[.val (.ref a1), .val (.int p2), .val (.ref a3), .val (.ref a4), .val (.ref a5), .val .null] [(.ref a1)])) _
      refine XS.aloadN X125.here hx rfl (hb hby d11_52) rfl rfl ?_
      exact k)
  obtain ⟨_, _, ⟨T140, L140, k140, n140⟩, -, X140, ⟨Lc140, hQ140, l140, y140, z140⟩, st140⟩ := Jvm.LawKit.callS X125 hx (y := (⟨"com/example/votal/votal/log/LogRecord", "isZero", "([B)Z"⟩ : MethodName)) hown (mvT hZ (hw _ (List.mem_of_getElem? (i := 61) rfl))) (mvT hZ (hw _ (List.mem_of_getElem? (i := 62) rfl))) (mvT hZ (hw _ (List.mem_of_getElem? (i := 31) rfl))) (mvT hZ (hw _ (List.mem_of_getElem? (i := 63) rfl))) (by decide) (backOf (W := 1) (rm8 l Z a0 hw [] a3 n1 f h125 n0 Z125 Vf127 hf h1) hZ (hw _ (List.mem_of_getElem? (i := 63) rfl)) (hw _ (List.mem_of_getElem? (i := 31) rfl)) (by decide) (by decide)) (g := (mkF m 53 #[.val (.ref a1), .val (.int p2), .val (.ref a3), .val (.ref a4), .val (.ref a5), .val .null] [(.ref a3), (.ref a1)])) rfl (by rw [hml]; rfl) (argsL := [(.ref a3)]) (rest := [(.ref a1)]) (lenOf pd_7 rfl) rfl (by show 2 * 0 + _ ≤ _; exact Nat.le_of_eq rfl) (hb hby d11_53) (fun _ _ => ⟨rfl, e125, (by decide : 0 + 0 ≤ _), (by decide : 0 + 0 ≤ _)⟩)
  dsimp only [Pt.U, Pt.locs, Pt.cells, Pt.slots] at X140 l140 y140 z140 st140 hQ140
  subst l140 y140 z140
  obtain ⟨r140, rfl, N140q, Qe140⟩ := hQ140
  have N140 := Fr.app N125 N140q
  have ac141 : ∀ t, Steps p.tables e below (T140.setTop (mkF m 56 #[.val (.ref a1), .val (.int p2), .val (.ref a3), .val (.ref a4), .val (.ref a5), .val .null] [(.int r140), (.ref a1)])) t → Steps p.tables e below (s₁.setTop (entryFrame m #[(.ref a1), (.int p2), (.ref a3), (.ref a4), (.ref a5), .null] 6)) t := fun t k => ac139 t (st140 t k)
  obtain ⟨T142, h142, X142, e142, W142, st142⟩ := putFN X140 hx hZ hown (hw _ (List.mem_of_getElem? (i := 64) rfl)) Via.refl Qe140 Ff128 Ef126 (Or.inr ⟨(hw _ (List.mem_of_getElem? (i := 65) rfl)), rfl, hnm⟩) (hw _ (List.mem_of_getElem? (i := 30) rfl)) (ty := .boolean) (v' := (.int (nar .boolean r140))) (by decide) rfl (fits_nar_bool _) (g := (mkF m 56 #[.val (.ref a1), .val (.int p2), .val (.ref a3), .val (.ref a4), .val (.ref a5), .val .null] [(.int r140), (.ref a1)])) rfl rfl (hb hby d11_56)
  have Fw142 := Ff128.same W142
  have Ef143 := Ef126.wr W142
  have Vf144 := Vf127.other W142 ne_a3_a1
  have Ff145 := Ff129.other W142 (Or.inr (slot_ne (Or.inr (hw _ (List.mem_of_getElem? (i := 37) rfl))) (Or.inr (hw _ (List.mem_of_getElem? (i := 65) rfl))) (by decide) (t := .int) (t' := .boolean) (by decide) (by decide)))
  have Ff146 := Ff130.other W142 (Or.inr (slot_ne (Or.inr (hw _ (List.mem_of_getElem? (i := 39) rfl))) (Or.inr (hw _ (List.mem_of_getElem? (i := 65) rfl))) (by decide) (t := (.array .byte)) (t' := .boolean) (by decide) (by decide)))
  have Ff147 := Ff131.other W142 (Or.inr (slot_ne (Or.inr (hw _ (List.mem_of_getElem? (i := 48) rfl))) (Or.inr (hw _ (List.mem_of_getElem? (i := 65) rfl))) (by decide) (t := (.object "java/lang/String")) (t' := .boolean) (by decide) (by decide)))
  have Ff148 := Ff132.other W142 (Or.inr (slot_ne (Or.inr (hw _ (List.mem_of_getElem? (i := 50) rfl))) (Or.inr (hw _ (List.mem_of_getElem? (i := 65) rfl))) (by decide) (t := (.object "com/example/votal/votal/log/Template")) (t' := .boolean) (by decide) (by decide)))
  have Ff149 := Ff133.other W142 (Or.inr (slot_ne (Or.inr (hw _ (List.mem_of_getElem? (i := 52) rfl))) (Or.inr (hw _ (List.mem_of_getElem? (i := 65) rfl))) (by decide) (t := (.object "java/lang/String")) (t' := .boolean) (by decide) (by decide)))
  have Ff150 := Ff134.other W142 (Or.inr (slot_ne (Or.inr (hw _ (List.mem_of_getElem? (i := 54) rfl))) (Or.inr (hw _ (List.mem_of_getElem? (i := 65) rfl))) (by decide) (t := (.object "com/example/votal/votal/log/DigestAlgorithm")) (t' := .boolean) (by decide) (by decide)))
  have Ff151 := Ff135.other W142 (Or.inr (slot_ne (Or.inr (hw _ (List.mem_of_getElem? (i := 56) rfl))) (Or.inr (hw _ (List.mem_of_getElem? (i := 65) rfl))) (by decide) (t := (.array .byte)) (t' := .boolean) (by decide) (by decide)))
  have Ff152 := Ff136.other W142 (Or.inr (slot_ne (Or.inr (hw _ (List.mem_of_getElem? (i := 58) rfl))) (Or.inr (hw _ (List.mem_of_getElem? (i := 65) rfl))) (by decide) (t := .int) (t' := .boolean) (by decide) (by decide)))
  have Ff153 := Fw125.other W142 (Or.inr (slot_ne (Or.inr (hw _ (List.mem_of_getElem? (i := 60) rfl))) (Or.inr (hw _ (List.mem_of_getElem? (i := 65) rfl))) (by decide) (t := (.array .byte)) (t' := .boolean) (by decide) (by decide)))
  have N142 := Fr.snoc X142 N140 g_a1
  have Z142 : n0 ≤ h142.size := Nat.le_trans Z125 (Keep.of_wr W142).1
  have Kp154 : Keep h0 h142 [a1] := Kp137.wr W142 (Or.inl (List.mem_of_getElem? (i := 0) rfl))
  have ac155 : ∀ t, Steps p.tables e below (T142.setTop (mkF m 59 #[.val (.ref a1), .val (.int p2), .val (.ref a3), .val (.ref a4), .val (.ref a5), .val .null] [])) t → Steps p.tables e below (s₁.setTop (entryFrame m #[(.ref a1), (.int p2), (.ref a3), (.ref a4), (.ref a5), .null] 6)) t := fun t k => ac141 t (st142 t k)
  obtain ⟨fs, hr, hrun, hended, hW, hsame⟩ := X142.leave (v := none) (fun _ => rfl) (BodyLoose.notSynchronized Bd)
  refine ⟨_, _, ac155 _ ?_, hrun, hended, _, _, rfl, ?_, ⟨_, rfl⟩, hW, hsame.mono (by decide) (by decide)⟩
  · show Steps p.tables e below (T142.setTop (mkF m 59 #[.val (.ref a1), .val (.int p2), .val (.ref a3), .val (.ref a4), .val (.ref a5), .val .null] [])) _
    exact X142.returnOut hx Bd.returns (hb hby d11_59) hr
  · show Q11 Z a1 p2 a3 a4 a5 n1 f h0 n0 _ T142.heap _
    rw [e142]
    exact ⟨rfl, N142, Kp154, Ef143, Ff151⟩
theorem ef_rm9n (m : MethodId) (x0 : Addr) : entryFrame m #[(.ref x0)] 1 = mkF m 0 #[.val (.ref x0)] [] := by first | (simp [entryFrame, mkF, argsToLocals, Value.category]; done) | rfl
def Q9n (Z : State) (a1 : Addr) (h0 : Heap) (n0 : Nat) (v : Option Value) (h : Heap) (L : List Loc) : Prop := v = some .null ∧ Fr n0 L ∧ h = h0
set_option maxRecDepth 65536 in
set_option maxHeartbeats 40000000 in
theorem rm9n (l : Launch) (Z : State) (a0 : Array Value) (hw : ∀ d ∈ tables_1, d.before a0 Z = true) (ws : List Jvm.Cond) (a1 : Addr) (h0 : Heap) (n0 : Nat) (Z0 : n0 ≤ h0.size) (F1 : Fld Z h0 a1 "com/example/votal/votal/log/LogRecord" "mDigest" "[B" .null) :
    MetFree l (⟨"com/example/votal/votal/log/LogRecord", "getDigest", "()[B"⟩ : MethodName) (head1 (Jvm.Cond.code (⟨"com/example/votal/votal/log/LogRecord", "getDigest", "()[B"⟩ : MethodName) prog_49_method_10_code 1 (some (.array .byte)) :: ws) ({ frames := 0, cells := 0, slots := 0, locals := 0 } : Room)) (fun a U => a = #[(.ref a1)] ∧ Z.Warmed39 U.vm ∧ U.heap = h0) (fun _ _ _ _ _ => True) (fun _ U o U' => ∃ v L, o = .returned v ∧ Q9n Z a1 h0 n0 v U'.heap L ∧ FrameEnd U o U' L ({ frames := 0, cells := 0, slots := 0, locals := 0 } : Room).cells ({ frames := 0, cells := 0, slots := 0, locals := 0 } : Room).slots) := by
  refine MetFree.of_bodySF (plainFor_of_name pn_9) hisR ?_
  intro p e s m args below meth c s₁ Bd hml0 hP hK
  obtain ⟨rfl, hZ, hh⟩ := hP
  have hx := Bd.exec
  have hby := Bd.bytes
  have hml : c.maxLocals = 1 := hml0
  have hown : s.vm.findClass "com/example/votal/votal/log/LogRecord" = some m.cls := findClass_of_methodNamed Bd.named
  have hnm := (name_of_methodNamed Bd.named Bd.method).1
  have X0 : Stand p l e ({ frames := 0, cells := 0, slots := 0, locals := 0 } : Room) s m #[(.ref a1)] below meth c s₁ [] 0 0 := Stand.of_body Bd
  have e0 : s₁.heap = h0 := by rw [← hh, Bd.state]; rfl
  have N0 := Fr.nil n0
  have a0s : ∀ t, Steps p.tables e below (s₁.setTop (mkF m 0 #[.val (.ref a1)] [])) t → Steps p.tables e below (s₁.setTop (entryFrame m #[(.ref a1)] 1)) t := fun t k => castTop (ef_rm9n m a1) k
  have ac1 : ∀ t, Steps p.tables e below (s₁.setTop (mkF m 1 #[.val (.ref a1)] [(.ref a1)])) t → Steps p.tables e below (s₁.setTop (entryFrame m #[(.ref a1)] 1)) t := fun t k => a0s t (by
      show Steps p.tables e below (s₁.setTop (mkF m 0 #[.val (.ref a1)] [])) _
      refine XS.aloadN X0.here hx rfl (hb hby d9_0) rfl rfl ?_
      exact k)
  obtain ⟨T2, X2, e2, st2⟩ := getF X0 hx hZ hown (host := "") (Or.inl (hw _ (List.mem_of_getElem? (i := 55) rfl))) Via.refl e0 F1 (g := (mkF m 1 #[.val (.ref a1)] [(.ref a1)])) rfl rfl (hb hby d9_1)
  have ac3 : ∀ t, Steps p.tables e below (T2.setTop (mkF m 4 #[.val (.ref a1)] [.null])) t → Steps p.tables e below (s₁.setTop (entryFrame m #[(.ref a1)] 1)) t := fun t k => ac1 t (st2 t k)
  have ac4 : ∀ t, Steps p.tables e below (T2.setTop (mkF m 21 #[.val (.ref a1)] [.null])) t → Steps p.tables e below (s₁.setTop (entryFrame m #[(.ref a1)] 1)) t := fun t k => ac3 t (by
      show Steps p.tables e below (T2.setTop (mkF m 4 #[.val (.ref a1)] [.null])) _
      refine XS.ifnonnullNo X2.here hx rfl (hb hby d9_4) rfl ?_
      show Steps p.tables e below (T2.setTop (mkF m 7 #[.val (.ref a1)] [])) _
      refine XS.aconstNull X2.here hx rfl (hb hby d9_7) ?_
      show Steps p.tables e below (T2.setTop (mkF m 8 #[.val (.ref a1)] [.null])) _
      refine XS.goto X2.here hx rfl (pc0 := 8) (pc' := 21) rfl (hb hby d9_8) (by decide) (by decide) ?_
      exact k)
  obtain ⟨fs, hr, hrun, hended, hW, hsame⟩ := X2.leave (v := some .null) (fun h => by rw [Bd.returns] at h; cases h) (BodyLoose.notSynchronized Bd)
  refine ⟨_, _, ac4 _ ?_, hrun, hended, _, _, rfl, ?_, ⟨_, rfl⟩, hW, hsame.mono (by decide) (by decide)⟩
  · show Steps p.tables e below (T2.setTop (mkF m 21 #[.val (.ref a1)] [.null])) _
    exact retOut X2 hx Bd.returns rfl (Or.inr (Or.inr (Or.inr (Or.inr ⟨rfl, rfl, rfl⟩)))) (hb hby d9_21) hr
  · show Q9n Z a1 h0 n0 _ T2.heap _
    rw [e2]
    exact ⟨rfl, N0, rfl⟩
theorem ef_rm9c (m : MethodId) (x0 : Addr) : entryFrame m #[(.ref x0)] 1 = mkF m 0 #[.val (.ref x0)] [] := by first | (simp [entryFrame, mkF, argsToLocals, Value.category]; done) | rfl
def Q9c (Z : State) (a1 : Addr) (d : Addr) (n1 : Nat) (f : Nat → Value) (h0 : Heap) (n0 : Nat) (v : Option Value) (h : Heap) (L : List Loc) : Prop := ∃ r : Addr, v = some (.ref r) ∧ Fr n0 L ∧ Keep h0 h [] ∧ h0.size ≤ r ∧ own_Ar Z h r .byte n1 f
set_option maxRecDepth 65536 in
set_option maxHeartbeats 40000000 in
theorem rm9c (l : Launch) (Z : State) (a0 : Array Value) (hw : ∀ d ∈ tables_1, d.before a0 Z = true) (ws : List Jvm.Cond) (a1 : Addr) (d : Addr) (n1 : Nat) (f : Nat → Value) (h0 : Heap) (n0 : Nat) (Z0 : n0 ≤ h0.size) (F1 : Fld Z h0 a1 "com/example/votal/votal/log/LogRecord" "mDigest" "[B" (.ref d)) (V1 : own_Ar Z h0 d .byte n1 f) (E2 : Exa Z h0 d "[B") (h3 : n1 ≤ 3) :
    MetFree l (⟨"com/example/votal/votal/log/LogRecord", "getDigest", "()[B"⟩ : MethodName) (head1 (Jvm.Cond.code (⟨"com/example/votal/votal/log/LogRecord", "getDigest", "()[B"⟩ : MethodName) prog_49_method_10_code 1 (some (.array .byte)) :: ws) ({ frames := 1, cells := 1, slots := 3, locals := 14 } : Room)) (fun a U => a = #[(.ref a1)] ∧ Z.Warmed39 U.vm ∧ U.heap = h0) (fun _ _ _ _ _ => True) (fun _ U o U' => ∃ v L, o = .returned v ∧ Q9c Z a1 d n1 f h0 n0 v U'.heap L ∧ FrameEnd U o U' L ({ frames := 1, cells := 1, slots := 3, locals := 14 } : Room).cells ({ frames := 1, cells := 1, slots := 3, locals := 14 } : Room).slots) := by
  refine MetFree.of_bodySF (plainFor_of_name pn_9) hisR ?_
  intro p e s m args below meth c s₁ Bd hml0 hP hK
  obtain ⟨rfl, hZ, hh⟩ := hP
  have hx := Bd.exec
  have hby := Bd.bytes
  have hml : c.maxLocals = 1 := hml0
  have hown : s.vm.findClass "com/example/votal/votal/log/LogRecord" = some m.cls := findClass_of_methodNamed Bd.named
  have hnm := (name_of_methodNamed Bd.named Bd.method).1
  have X0 : Stand p l e ({ frames := 1, cells := 1, slots := 3, locals := 14 } : Room) s m #[(.ref a1)] below meth c s₁ [] 0 0 := Stand.of_body Bd
  have e0 : s₁.heap = h0 := by rw [← hh, Bd.state]; rfl
  have N0 := Fr.nil n0
  have a0s : ∀ t, Steps p.tables e below (s₁.setTop (mkF m 0 #[.val (.ref a1)] [])) t → Steps p.tables e below (s₁.setTop (entryFrame m #[(.ref a1)] 1)) t := fun t k => castTop (ef_rm9c m a1) k
  have ac1 : ∀ t, Steps p.tables e below (s₁.setTop (mkF m 1 #[.val (.ref a1)] [(.ref a1)])) t → Steps p.tables e below (s₁.setTop (entryFrame m #[(.ref a1)] 1)) t := fun t k => a0s t (by
      show Steps p.tables e below (s₁.setTop (mkF m 0 #[.val (.ref a1)] [])) _
      refine XS.aloadN X0.here hx rfl (hb hby d9_0) rfl rfl ?_
      exact k)
  obtain ⟨T2, X2, e2, st2⟩ := getF X0 hx hZ hown (host := "") (Or.inl (hw _ (List.mem_of_getElem? (i := 55) rfl))) Via.refl e0 F1 (g := (mkF m 1 #[.val (.ref a1)] [(.ref a1)])) rfl rfl (hb hby d9_1)
  have ac3 : ∀ t, Steps p.tables e below (T2.setTop (mkF m 4 #[.val (.ref a1)] [(.ref d)])) t → Steps p.tables e below (s₁.setTop (entryFrame m #[(.ref a1)] 1)) t := fun t k => ac1 t (st2 t k)
  have ac4 : ∀ t, Steps p.tables e below (T2.setTop (mkF m 12 #[.val (.ref a1)] [(.ref a1)])) t → Steps p.tables e below (s₁.setTop (entryFrame m #[(.ref a1)] 1)) t := fun t k => ac3 t (by
      show Steps p.tables e below (T2.setTop (mkF m 4 #[.val (.ref a1)] [(.ref d)])) _
      refine XS.ifnonnullYes X2.here hx rfl (pc0 := 4) (pc' := 11) rfl (hb hby d9_4) rfl (by decide) (by decide) ?_
      show Steps p.tables e below (T2.setTop (mkF m 11 #[.val (.ref a1)] [])) _
      refine XS.aloadN X2.here hx rfl (hb hby d9_11) rfl rfl ?_
      exact k)
  obtain ⟨T5, X5, e5, st5⟩ := getF X2 hx hZ hown (host := "") (Or.inl (hw _ (List.mem_of_getElem? (i := 55) rfl))) Via.refl e2 F1 (g := (mkF m 12 #[.val (.ref a1)] [(.ref a1)])) rfl rfl (hb hby d9_12)
  have ac6 : ∀ t, Steps p.tables e below (T5.setTop (mkF m 15 #[.val (.ref a1)] [(.ref d)])) t → Steps p.tables e below (s₁.setTop (entryFrame m #[(.ref a1)] 1)) t := fun t k => ac4 t (st5 t k)
  obtain ⟨T7, h7, X7, e7, E7, V7, Ea7, st7⟩ := own_clone X5 hx hZ hown (hw _ (List.mem_of_getElem? (i := 71) rfl)) (hw _ (List.mem_of_getElem? (i := 72) rfl)) (hw _ (List.mem_of_getElem? (i := 76) rfl)) (hw _ (List.mem_of_getElem? (i := 74) rfl)) (hw _ (List.mem_of_getElem? (i := 75) rfl)) (hw _ (List.mem_of_getElem? (i := 77) rfl)) e5 V1 E2 (g := (mkF m 15 #[.val (.ref a1)] [(.ref d)])) rfl (by rw [hml]; rfl) rfl (hb hby d9_15) (by decide) (W := 0) (cap := 3) (by show 2 * 0 + _ ≤ _; exact Nat.le_of_eq rfl) (by decide) h3 (by decide) (by decide)
  obtain ⟨b7, g7⟩ : ∃ z, z = h0.size := ⟨_, rfl⟩
  rw [← g7] at V7 Ea7 st7
  have g_b7 : n0 ≤ b7 := Nat.le_trans Z0 (Nat.le_of_eq g7.symm)
  have sz_b7 : h0.size ≤ b7 := Nat.le_trans (Keep.refl h0 []).1 (Nat.le_of_eq g7.symm)
  have ne_a1_b7 : a1 ≠ b7 := Nat.ne_of_lt (Nat.lt_of_lt_of_le F1.lt (Nat.le_of_eq g7.symm))
  have ne_d_b7 : d ≠ b7 := Nat.ne_of_lt (Nat.lt_of_lt_of_le V1.lt (Nat.le_of_eq g7.symm))
  have Ff8 := F1.ext E7
  have Vf9 := V1.ext E7
  have Ef10 := E2.ext E7
  have Z7 : n0 ≤ h7.size := Nat.le_trans Z0 E7.1
  have Kp11 : Keep h0 h7 [] := (Keep.refl h0 []).ext E7
  have ac12 : ∀ t, Steps p.tables e below (T7.setTop (mkF m 18 #[.val (.ref a1)] [(.ref b7)])) t → Steps p.tables e below (s₁.setTop (entryFrame m #[(.ref a1)] 1)) t := fun t k => ac6 t (st7 t k)
  obtain ⟨T13, X13, e13, st13⟩ := castY X7 hx hZ hown (hw _ (List.mem_of_getElem? (i := 78) rfl)) e7 (Ins.self Ea7) (g := (mkF m 18 #[.val (.ref a1)] [(.ref b7)])) rfl rfl (hb hby d9_18)
  have ac14 : ∀ t, Steps p.tables e below (T13.setTop (mkF m 21 #[.val (.ref a1)] [(.ref b7)])) t → Steps p.tables e below (s₁.setTop (entryFrame m #[(.ref a1)] 1)) t := fun t k => ac12 t (st13 t k)
  obtain ⟨fs, hr, hrun, hended, hW, hsame⟩ := X13.leave (v := some (.ref b7)) (fun h => by rw [Bd.returns] at h; cases h) (BodyLoose.notSynchronized Bd)
  refine ⟨_, _, ac14 _ ?_, hrun, hended, _, _, rfl, ?_, ⟨_, rfl⟩, hW, hsame.mono (by decide) (by decide)⟩
  · show Steps p.tables e below (T13.setTop (mkF m 21 #[.val (.ref a1)] [(.ref b7)])) _
    exact retOut X13 hx Bd.returns rfl (Or.inr (Or.inr (Or.inr (Or.inr ⟨rfl, rfl, rfl⟩)))) (hb hby d9_21) hr
  · show Q9c Z a1 d n1 f h0 n0 _ T13.heap _
    rw [e13]
    exact ⟨b7, rfl, N0, Kp11, sz_b7, V7⟩
theorem ef_rm10_0 (m : MethodId) (x0 : Addr) (x1 : Int32) (x2 : Int32) (x3 : Int32) : entryFrame m #[(.ref x0), (.int x1), (.int x2), (.int x3)] 4 = mkF m 0 #[.val (.ref x0), .val (.int x1), .val (.int x2), .val (.int x3)] [] := by first | (simp [entryFrame, mkF, argsToLocals, Value.category]; done) | rfl
def Q10_0 (Z : State) (a1 : Addr) (p2 : Int32) (p3 : Int32) (p4 : Int32) (f : Nat → Value) (h0 : Heap) (n0 : Nat) (v : Option Value) (h : Heap) (L : List Loc) : Prop := v = some (.int 1) ∧ Fr n0 L ∧ h = h0
set_option maxRecDepth 65536 in
set_option maxHeartbeats 40000000 in
theorem rm10_0 (l : Launch) (Z : State) (a0 : Array Value) (hw : ∀ d ∈ tables_1, d.before a0 Z = true) (ws : List Jvm.Cond) (a1 : Addr) (p2 : Int32) (p3 : Int32) (p4 : Int32) (f : Nat → Value) (h0 : Heap) (n0 : Nat) (Z0 : n0 ≤ h0.size) (V1 : own_Ar Z h0 a1 .byte 0 f) (h2 : p2 = 0)  :
    MetFree l (⟨"com/example/votal/votal/log/LogRecordGetDigestPinLaw", "same", "([BIII)Z"⟩ : MethodName) (head1 (Jvm.Cond.code (⟨"com/example/votal/votal/log/LogRecordGetDigestPinLaw", "same", "([BIII)Z"⟩ : MethodName) method_3_code 4 (some .boolean) :: ws) ({ frames := 0, cells := 0, slots := 0, locals := 0 } : Room)) (fun a U => a = #[(.ref a1), (.int p2), (.int p3), (.int p4)] ∧ Z.Warmed39 U.vm ∧ U.heap = h0) (fun _ _ _ _ _ => True) (fun _ U o U' => ∃ v L, o = .returned v ∧ Q10_0 Z a1 p2 p3 p4 f h0 n0 v U'.heap L ∧ FrameEnd U o U' L ({ frames := 0, cells := 0, slots := 0, locals := 0 } : Room).cells ({ frames := 0, cells := 0, slots := 0, locals := 0 } : Room).slots) := by
  refine MetFree.of_bodySF (plainFor_of_name pn_10) hisR ?_
  intro p e s m args below meth c s₁ Bd hml0 hP hK
  obtain ⟨rfl, hZ, hh⟩ := hP
  have hx := Bd.exec
  have hby := Bd.bytes
  have hml : c.maxLocals = 4 := hml0
  have hown : s.vm.findClass "com/example/votal/votal/log/LogRecordGetDigestPinLaw" = some m.cls := findClass_of_methodNamed Bd.named
  have hnm := (name_of_methodNamed Bd.named Bd.method).1
  have X0 : Stand p l e ({ frames := 0, cells := 0, slots := 0, locals := 0 } : Room) s m #[(.ref a1), (.int p2), (.int p3), (.int p4)] below meth c s₁ [] 0 0 := Stand.of_body Bd
  have e0 : s₁.heap = h0 := by rw [← hh, Bd.state]; rfl
  have N0 := Fr.nil n0
  have a0s : ∀ t, Steps p.tables e below (s₁.setTop (mkF m 0 #[.val (.ref a1), .val (.int p2), .val (.int p3), .val (.int p4)] [])) t → Steps p.tables e below (s₁.setTop (entryFrame m #[(.ref a1), (.int p2), (.int p3), (.int p4)] 4)) t := fun t k => castTop (ef_rm10_0 m a1 p2 p3 p4) k
  have ac1 : ∀ t, Steps p.tables e below (s₁.setTop (mkF m 1 #[.val (.ref a1), .val (.int p2), .val (.int p3), .val (.int p4)] [(.ref a1)])) t → Steps p.tables e below (s₁.setTop (entryFrame m #[(.ref a1), (.int p2), (.int p3), (.int p4)] 4)) t := fun t k => a0s t (by
      show Steps p.tables e below (s₁.setTop (mkF m 0 #[.val (.ref a1), .val (.int p2), .val (.int p3), .val (.int p4)] [])) _
      refine XS.aloadN X0.here hx rfl (hb hby d10_0) rfl rfl ?_
      exact k)
  obtain ⟨cl2, Ac2, hl2, hb2⟩ := V1.len
  have ac3 : ∀ t, Steps p.tables e below (s₁.setTop (mkF m 56 #[.val (.ref a1), .val (.int p2), .val (.int p3), .val (.int p4)] [(.int (1 : Int32))])) t → Steps p.tables e below (s₁.setTop (entryFrame m #[(.ref a1), (.int p2), (.int p3), (.int p4)] 4)) t := fun t k => ac1 t (by
      show Steps p.tables e below (s₁.setTop (mkF m 1 #[.val (.ref a1), .val (.int p2), .val (.int p3), .val (.int p4)] [(.ref a1)])) _
      refine X0.arraylength hx (by rw [e0]; exact Ac2.1) (State.isArrayOf_alike hZ.alike Ac2.2.1) (g := (mkF m 1 #[.val (.ref a1), .val (.int p2), .val (.int p3), .val (.int p4)] [(.ref a1)])) rfl rfl (hb hby d10_1) _ ?_
      rw [hl2]
      show Steps p.tables e below (s₁.setTop (mkF m 2 #[.val (.ref a1), .val (.int p2), .val (.int p3), .val (.int p4)] [(.int (Int32.ofNat 0))])) _
      refine XS.iloadN X0.here hx rfl (hb hby d10_2) rfl ?_
      show Steps p.tables e below (s₁.setTop (mkF m 3 #[.val (.ref a1), .val (.int p2), .val (.int p3), .val (.int p4)] [(.int p2), (.int (Int32.ofNat 0))])) _
      refine XS.icmpYes X0.here hx rfl (pc0 := 3) (pc' := 8) rfl (hb hby d10_3) rfl (teq (by rw [h2]; rfl)).1 (by decide) (by decide) ?_
      show Steps p.tables e below (s₁.setTop (mkF m 8 #[.val (.ref a1), .val (.int p2), .val (.int p3), .val (.int p4)] [])) _
      refine XS.iloadN X0.here hx rfl (hb hby d10_8) rfl ?_
      show Steps p.tables e below (s₁.setTop (mkF m 9 #[.val (.ref a1), .val (.int p2), .val (.int p3), .val (.int p4)] [(.int p2)])) _
      refine XS.ifYes X0.here hx rfl (pc0 := 9) (pc' := 22) rfl (hb hby d10_9) rfl ((if0 _ _).trans (flt (by rw [h2]; decide)).2.2.2) (by decide) (by decide) ?_
      show Steps p.tables e below (s₁.setTop (mkF m 22 #[.val (.ref a1), .val (.int p2), .val (.int p3), .val (.int p4)] [])) _
      refine XS.iloadN X0.here hx rfl (hb hby d10_22) rfl ?_
      show Steps p.tables e below (s₁.setTop (mkF m 23 #[.val (.ref a1), .val (.int p2), .val (.int p3), .val (.int p4)] [(.int p2)])) _
      refine XS.iconst X0.here hx rfl (hb hby d10_23) ?_
      show Steps p.tables e below (s₁.setTop (mkF m 24 #[.val (.ref a1), .val (.int p2), .val (.int p3), .val (.int p4)] [(.int (1 : Int32)), (.int p2)])) _
      refine XS.icmpYes X0.here hx rfl (pc0 := 24) (pc' := 40) rfl (hb hby d10_24) rfl (flt (by rw [h2]; decide)).2.2.2 (by decide) (by decide) ?_
      show Steps p.tables e below (s₁.setTop (mkF m 40 #[.val (.ref a1), .val (.int p2), .val (.int p3), .val (.int p4)] [])) _
      refine XS.iloadN X0.here hx rfl (hb hby d10_40) rfl ?_
      show Steps p.tables e below (s₁.setTop (mkF m 41 #[.val (.ref a1), .val (.int p2), .val (.int p3), .val (.int p4)] [(.int p2)])) _
      refine XS.iconst X0.here hx rfl (hb hby d10_41) ?_
      show Steps p.tables e below (s₁.setTop (mkF m 42 #[.val (.ref a1), .val (.int p2), .val (.int p3), .val (.int p4)] [(.int (2 : Int32)), (.int p2)])) _
      refine XS.icmpYes X0.here hx rfl (pc0 := 42) (pc' := 55) rfl (hb hby d10_42) rfl (flt (by rw [h2]; decide)).2.2.2 (by decide) (by decide) ?_
      show Steps p.tables e below (s₁.setTop (mkF m 55 #[.val (.ref a1), .val (.int p2), .val (.int p3), .val (.int p4)] [])) _
      refine XS.iconst X0.here hx rfl (hb hby d10_55) ?_
      exact k)
  obtain ⟨fs, hr, hrun, hended, hW, hsame⟩ := X0.leave (v := some (.int (1 : Int32))) (fun h => by rw [Bd.returns] at h; cases h) (BodyLoose.notSynchronized Bd)
  refine ⟨_, _, ac3 _ ?_, hrun, hended, _, _, rfl, ?_, ⟨_, rfl⟩, hW, hsame.mono (by decide) (by decide)⟩
  · show Steps p.tables e below (s₁.setTop (mkF m 56 #[.val (.ref a1), .val (.int p2), .val (.int p3), .val (.int p4)] [(.int (1 : Int32))])) _
    exact retN X0 hx (t := .boolean) Bd.returns (by simp) (hb hby d10_56) hr
  · show Q10_0 Z a1 p2 p3 p4 f h0 n0 _ s₁.heap _
    rw [e0]
    exact ⟨rfl, N0, rfl⟩
theorem ef_rm10_1 (m : MethodId) (x0 : Addr) (x1 : Int32) (x2 : Int32) (x3 : Int32) : entryFrame m #[(.ref x0), (.int x1), (.int x2), (.int x3)] 4 = mkF m 0 #[.val (.ref x0), .val (.int x1), .val (.int x2), .val (.int x3)] [] := by first | (simp [entryFrame, mkF, argsToLocals, Value.category]; done) | rfl
def Q10_1 (Z : State) (a1 : Addr) (p2 : Int32) (p3 : Int32) (p4 : Int32) (f : Nat → Value) (h0 : Heap) (n0 : Nat) (v : Option Value) (h : Heap) (L : List Loc) : Prop := v = some (.int 1) ∧ Fr n0 L ∧ h = h0
set_option maxRecDepth 65536 in
set_option maxHeartbeats 40000000 in
theorem rm10_1 (l : Launch) (Z : State) (a0 : Array Value) (hw : ∀ d ∈ tables_1, d.before a0 Z = true) (ws : List Jvm.Cond) (a1 : Addr) (p2 : Int32) (p3 : Int32) (p4 : Int32) (f : Nat → Value) (h0 : Heap) (n0 : Nat) (Z0 : n0 ≤ h0.size) (V1 : own_Ar Z h0 a1 .byte 1 f) (h2 : p2 = 1) (v0 : f 0 = .int (p3.toInt8.toInt32)) :
    MetFree l (⟨"com/example/votal/votal/log/LogRecordGetDigestPinLaw", "same", "([BIII)Z"⟩ : MethodName) (head1 (Jvm.Cond.code (⟨"com/example/votal/votal/log/LogRecordGetDigestPinLaw", "same", "([BIII)Z"⟩ : MethodName) method_3_code 4 (some .boolean) :: ws) ({ frames := 0, cells := 0, slots := 0, locals := 0 } : Room)) (fun a U => a = #[(.ref a1), (.int p2), (.int p3), (.int p4)] ∧ Z.Warmed39 U.vm ∧ U.heap = h0) (fun _ _ _ _ _ => True) (fun _ U o U' => ∃ v L, o = .returned v ∧ Q10_1 Z a1 p2 p3 p4 f h0 n0 v U'.heap L ∧ FrameEnd U o U' L ({ frames := 0, cells := 0, slots := 0, locals := 0 } : Room).cells ({ frames := 0, cells := 0, slots := 0, locals := 0 } : Room).slots) := by
  refine MetFree.of_bodySF (plainFor_of_name pn_10) hisR ?_
  intro p e s m args below meth c s₁ Bd hml0 hP hK
  obtain ⟨rfl, hZ, hh⟩ := hP
  have hx := Bd.exec
  have hby := Bd.bytes
  have hml : c.maxLocals = 4 := hml0
  have hown : s.vm.findClass "com/example/votal/votal/log/LogRecordGetDigestPinLaw" = some m.cls := findClass_of_methodNamed Bd.named
  have hnm := (name_of_methodNamed Bd.named Bd.method).1
  have X0 : Stand p l e ({ frames := 0, cells := 0, slots := 0, locals := 0 } : Room) s m #[(.ref a1), (.int p2), (.int p3), (.int p4)] below meth c s₁ [] 0 0 := Stand.of_body Bd
  have e0 : s₁.heap = h0 := by rw [← hh, Bd.state]; rfl
  have N0 := Fr.nil n0
  have a0s : ∀ t, Steps p.tables e below (s₁.setTop (mkF m 0 #[.val (.ref a1), .val (.int p2), .val (.int p3), .val (.int p4)] [])) t → Steps p.tables e below (s₁.setTop (entryFrame m #[(.ref a1), (.int p2), (.int p3), (.int p4)] 4)) t := fun t k => castTop (ef_rm10_1 m a1 p2 p3 p4) k
  have ac1 : ∀ t, Steps p.tables e below (s₁.setTop (mkF m 1 #[.val (.ref a1), .val (.int p2), .val (.int p3), .val (.int p4)] [(.ref a1)])) t → Steps p.tables e below (s₁.setTop (entryFrame m #[(.ref a1), (.int p2), (.int p3), (.int p4)] 4)) t := fun t k => a0s t (by
      show Steps p.tables e below (s₁.setTop (mkF m 0 #[.val (.ref a1), .val (.int p2), .val (.int p3), .val (.int p4)] [])) _
      refine XS.aloadN X0.here hx rfl (hb hby d10_0) rfl rfl ?_
      exact k)
  obtain ⟨cl2, Ac2, hl2, hb2⟩ := V1.len
  have ac3 : ∀ t, Steps p.tables e below (s₁.setTop (mkF m 14 #[.val (.ref a1), .val (.int p2), .val (.int p3), .val (.int p4)] [(.int (0 : Int32)), (.ref a1)])) t → Steps p.tables e below (s₁.setTop (entryFrame m #[(.ref a1), (.int p2), (.int p3), (.int p4)] 4)) t := fun t k => ac1 t (by
      show Steps p.tables e below (s₁.setTop (mkF m 1 #[.val (.ref a1), .val (.int p2), .val (.int p3), .val (.int p4)] [(.ref a1)])) _
      refine X0.arraylength hx (by rw [e0]; exact Ac2.1) (State.isArrayOf_alike hZ.alike Ac2.2.1) (g := (mkF m 1 #[.val (.ref a1), .val (.int p2), .val (.int p3), .val (.int p4)] [(.ref a1)])) rfl rfl (hb hby d10_1) _ ?_
      rw [hl2]
      show Steps p.tables e below (s₁.setTop (mkF m 2 #[.val (.ref a1), .val (.int p2), .val (.int p3), .val (.int p4)] [(.int (Int32.ofNat 1))])) _
      refine XS.iloadN X0.here hx rfl (hb hby d10_2) rfl ?_
      show Steps p.tables e below (s₁.setTop (mkF m 3 #[.val (.ref a1), .val (.int p2), .val (.int p3), .val (.int p4)] [(.int p2), (.int (Int32.ofNat 1))])) _
      refine XS.icmpYes X0.here hx rfl (pc0 := 3) (pc' := 8) rfl (hb hby d10_3) rfl (teq (by rw [h2]; rfl)).1 (by decide) (by decide) ?_
      show Steps p.tables e below (s₁.setTop (mkF m 8 #[.val (.ref a1), .val (.int p2), .val (.int p3), .val (.int p4)] [])) _
      refine XS.iloadN X0.here hx rfl (hb hby d10_8) rfl ?_
      show Steps p.tables e below (s₁.setTop (mkF m 9 #[.val (.ref a1), .val (.int p2), .val (.int p3), .val (.int p4)] [(.int p2)])) _
      refine XS.ifNo X0.here hx rfl (hb hby d10_9) rfl ((if0 _ _).trans (tlt (by rw [h2]; decide)).2.2.2) ?_
      show Steps p.tables e below (s₁.setTop (mkF m 12 #[.val (.ref a1), .val (.int p2), .val (.int p3), .val (.int p4)] [])) _
      refine XS.aloadN X0.here hx rfl (hb hby d10_12) rfl rfl ?_
      show Steps p.tables e below (s₁.setTop (mkF m 13 #[.val (.ref a1), .val (.int p2), .val (.int p3), .val (.int p4)] [(.ref a1)])) _
      refine XS.iconst X0.here hx rfl (hb hby d10_13) ?_
      exact k)
  obtain ⟨cl4, Ac4, hin4, hat4⟩ := V1.at (j := (0 : Int32)) (i := 0) rfl (by decide)
  have ac5 : ∀ t, Steps p.tables e below (s₁.setTop (mkF m 56 #[.val (.ref a1), .val (.int p2), .val (.int p3), .val (.int p4)] [(.int (1 : Int32))])) t → Steps p.tables e below (s₁.setTop (entryFrame m #[(.ref a1), (.int p2), (.int p3), (.int p4)] 4)) t := fun t k => ac3 t (by
      show Steps p.tables e below (s₁.setTop (mkF m 14 #[.val (.ref a1), .val (.int p2), .val (.int p3), .val (.int p4)] [(.int (0 : Int32)), (.ref a1)])) _
      refine X0.baloadBytes hx (j := (0 : Int32)) (v := (.int (p3.toInt8.toInt32))) (by rw [e0]; exact Ac4.1) (State.isArrayOf_alike hZ.alike Ac4.2.1) Ac4.2.2 hin4 (hat4.trans (congrArg some v0)) (g := (mkF m 14 #[.val (.ref a1), .val (.int p2), .val (.int p3), .val (.int p4)] [(.int (0 : Int32)), (.ref a1)])) rfl rfl (hb hby d10_14) _ ?_
      show Steps p.tables e below (s₁.setTop (mkF m 15 #[.val (.ref a1), .val (.int p2), .val (.int p3), .val (.int p4)] [(.int (p3.toInt8.toInt32))])) _
      refine XS.iloadN X0.here hx rfl (hb hby d10_15) rfl ?_
      show Steps p.tables e below (s₁.setTop (mkF m 16 #[.val (.ref a1), .val (.int p2), .val (.int p3), .val (.int p4)] [(.int p3), (.int (p3.toInt8.toInt32))])) _
      refine XS.i2b X0.here hx rfl (hb hby d10_16) rfl ?_
      show Steps p.tables e below (s₁.setTop (mkF m 17 #[.val (.ref a1), .val (.int p2), .val (.int p3), .val (.int p4)] [(.int (p3.toInt8.toInt32)), (.int (p3.toInt8.toInt32))])) _
      refine XS.icmpYes X0.here hx rfl (pc0 := 17) (pc' := 22) rfl (hb hby d10_17) rfl (teq rfl).1 (by decide) (by decide) ?_
      show Steps p.tables e below (s₁.setTop (mkF m 22 #[.val (.ref a1), .val (.int p2), .val (.int p3), .val (.int p4)] [])) _
      refine XS.iloadN X0.here hx rfl (hb hby d10_22) rfl ?_
      show Steps p.tables e below (s₁.setTop (mkF m 23 #[.val (.ref a1), .val (.int p2), .val (.int p3), .val (.int p4)] [(.int p2)])) _
      refine XS.iconst X0.here hx rfl (hb hby d10_23) ?_
      show Steps p.tables e below (s₁.setTop (mkF m 24 #[.val (.ref a1), .val (.int p2), .val (.int p3), .val (.int p4)] [(.int (1 : Int32)), (.int p2)])) _
      refine XS.icmpYes X0.here hx rfl (pc0 := 24) (pc' := 40) rfl (hb hby d10_24) rfl (flt (by rw [h2]; decide)).2.2.2 (by decide) (by decide) ?_
      show Steps p.tables e below (s₁.setTop (mkF m 40 #[.val (.ref a1), .val (.int p2), .val (.int p3), .val (.int p4)] [])) _
      refine XS.iloadN X0.here hx rfl (hb hby d10_40) rfl ?_
      show Steps p.tables e below (s₁.setTop (mkF m 41 #[.val (.ref a1), .val (.int p2), .val (.int p3), .val (.int p4)] [(.int p2)])) _
      refine XS.iconst X0.here hx rfl (hb hby d10_41) ?_
      show Steps p.tables e below (s₁.setTop (mkF m 42 #[.val (.ref a1), .val (.int p2), .val (.int p3), .val (.int p4)] [(.int (2 : Int32)), (.int p2)])) _
      refine XS.icmpYes X0.here hx rfl (pc0 := 42) (pc' := 55) rfl (hb hby d10_42) rfl (flt (by rw [h2]; decide)).2.2.2 (by decide) (by decide) ?_
      show Steps p.tables e below (s₁.setTop (mkF m 55 #[.val (.ref a1), .val (.int p2), .val (.int p3), .val (.int p4)] [])) _
      refine XS.iconst X0.here hx rfl (hb hby d10_55) ?_
      exact k)
  obtain ⟨fs, hr, hrun, hended, hW, hsame⟩ := X0.leave (v := some (.int (1 : Int32))) (fun h => by rw [Bd.returns] at h; cases h) (BodyLoose.notSynchronized Bd)
  refine ⟨_, _, ac5 _ ?_, hrun, hended, _, _, rfl, ?_, ⟨_, rfl⟩, hW, hsame.mono (by decide) (by decide)⟩
  · show Steps p.tables e below (s₁.setTop (mkF m 56 #[.val (.ref a1), .val (.int p2), .val (.int p3), .val (.int p4)] [(.int (1 : Int32))])) _
    exact retN X0 hx (t := .boolean) Bd.returns (by simp) (hb hby d10_56) hr
  · show Q10_1 Z a1 p2 p3 p4 f h0 n0 _ s₁.heap _
    rw [e0]
    exact ⟨rfl, N0, rfl⟩
theorem ef_rm10_2 (m : MethodId) (x0 : Addr) (x1 : Int32) (x2 : Int32) (x3 : Int32) : entryFrame m #[(.ref x0), (.int x1), (.int x2), (.int x3)] 4 = mkF m 0 #[.val (.ref x0), .val (.int x1), .val (.int x2), .val (.int x3)] [] := by first | (simp [entryFrame, mkF, argsToLocals, Value.category]; done) | rfl
def Q10_2 (Z : State) (a1 : Addr) (p2 : Int32) (p3 : Int32) (p4 : Int32) (f : Nat → Value) (h0 : Heap) (n0 : Nat) (v : Option Value) (h : Heap) (L : List Loc) : Prop := v = some (.int 1) ∧ Fr n0 L ∧ h = h0
set_option maxRecDepth 65536 in
set_option maxHeartbeats 40000000 in
theorem rm10_2 (l : Launch) (Z : State) (a0 : Array Value) (hw : ∀ d ∈ tables_1, d.before a0 Z = true) (ws : List Jvm.Cond) (a1 : Addr) (p2 : Int32) (p3 : Int32) (p4 : Int32) (f : Nat → Value) (h0 : Heap) (n0 : Nat) (Z0 : n0 ≤ h0.size) (V1 : own_Ar Z h0 a1 .byte 2 f) (h2 : p2 = 2) (v0 : f 0 = .int (p3.toInt8.toInt32)) (v1 : f 1 = .int (((p3.toUInt32 >>> ((8 : Int32) &&& 31).toUInt32).toInt32).toInt8.toInt32)) :
    MetFree l (⟨"com/example/votal/votal/log/LogRecordGetDigestPinLaw", "same", "([BIII)Z"⟩ : MethodName) (head1 (Jvm.Cond.code (⟨"com/example/votal/votal/log/LogRecordGetDigestPinLaw", "same", "([BIII)Z"⟩ : MethodName) method_3_code 4 (some .boolean) :: ws) ({ frames := 0, cells := 0, slots := 0, locals := 0 } : Room)) (fun a U => a = #[(.ref a1), (.int p2), (.int p3), (.int p4)] ∧ Z.Warmed39 U.vm ∧ U.heap = h0) (fun _ _ _ _ _ => True) (fun _ U o U' => ∃ v L, o = .returned v ∧ Q10_2 Z a1 p2 p3 p4 f h0 n0 v U'.heap L ∧ FrameEnd U o U' L ({ frames := 0, cells := 0, slots := 0, locals := 0 } : Room).cells ({ frames := 0, cells := 0, slots := 0, locals := 0 } : Room).slots) := by
  refine MetFree.of_bodySF (plainFor_of_name pn_10) hisR ?_
  intro p e s m args below meth c s₁ Bd hml0 hP hK
  obtain ⟨rfl, hZ, hh⟩ := hP
  have hx := Bd.exec
  have hby := Bd.bytes
  have hml : c.maxLocals = 4 := hml0
  have hown : s.vm.findClass "com/example/votal/votal/log/LogRecordGetDigestPinLaw" = some m.cls := findClass_of_methodNamed Bd.named
  have hnm := (name_of_methodNamed Bd.named Bd.method).1
  have X0 : Stand p l e ({ frames := 0, cells := 0, slots := 0, locals := 0 } : Room) s m #[(.ref a1), (.int p2), (.int p3), (.int p4)] below meth c s₁ [] 0 0 := Stand.of_body Bd
  have e0 : s₁.heap = h0 := by rw [← hh, Bd.state]; rfl
  have N0 := Fr.nil n0
  have a0s : ∀ t, Steps p.tables e below (s₁.setTop (mkF m 0 #[.val (.ref a1), .val (.int p2), .val (.int p3), .val (.int p4)] [])) t → Steps p.tables e below (s₁.setTop (entryFrame m #[(.ref a1), (.int p2), (.int p3), (.int p4)] 4)) t := fun t k => castTop (ef_rm10_2 m a1 p2 p3 p4) k
  have ac1 : ∀ t, Steps p.tables e below (s₁.setTop (mkF m 1 #[.val (.ref a1), .val (.int p2), .val (.int p3), .val (.int p4)] [(.ref a1)])) t → Steps p.tables e below (s₁.setTop (entryFrame m #[(.ref a1), (.int p2), (.int p3), (.int p4)] 4)) t := fun t k => a0s t (by
      show Steps p.tables e below (s₁.setTop (mkF m 0 #[.val (.ref a1), .val (.int p2), .val (.int p3), .val (.int p4)] [])) _
      refine XS.aloadN X0.here hx rfl (hb hby d10_0) rfl rfl ?_
      exact k)
  obtain ⟨cl2, Ac2, hl2, hb2⟩ := V1.len
  have ac3 : ∀ t, Steps p.tables e below (s₁.setTop (mkF m 14 #[.val (.ref a1), .val (.int p2), .val (.int p3), .val (.int p4)] [(.int (0 : Int32)), (.ref a1)])) t → Steps p.tables e below (s₁.setTop (entryFrame m #[(.ref a1), (.int p2), (.int p3), (.int p4)] 4)) t := fun t k => ac1 t (by
      show Steps p.tables e below (s₁.setTop (mkF m 1 #[.val (.ref a1), .val (.int p2), .val (.int p3), .val (.int p4)] [(.ref a1)])) _
      refine X0.arraylength hx (by rw [e0]; exact Ac2.1) (State.isArrayOf_alike hZ.alike Ac2.2.1) (g := (mkF m 1 #[.val (.ref a1), .val (.int p2), .val (.int p3), .val (.int p4)] [(.ref a1)])) rfl rfl (hb hby d10_1) _ ?_
      rw [hl2]
      show Steps p.tables e below (s₁.setTop (mkF m 2 #[.val (.ref a1), .val (.int p2), .val (.int p3), .val (.int p4)] [(.int (Int32.ofNat 2))])) _
      refine XS.iloadN X0.here hx rfl (hb hby d10_2) rfl ?_
      show Steps p.tables e below (s₁.setTop (mkF m 3 #[.val (.ref a1), .val (.int p2), .val (.int p3), .val (.int p4)] [(.int p2), (.int (Int32.ofNat 2))])) _
      refine XS.icmpYes X0.here hx rfl (pc0 := 3) (pc' := 8) rfl (hb hby d10_3) rfl (teq (by rw [h2]; rfl)).1 (by decide) (by decide) ?_
      show Steps p.tables e below (s₁.setTop (mkF m 8 #[.val (.ref a1), .val (.int p2), .val (.int p3), .val (.int p4)] [])) _
      refine XS.iloadN X0.here hx rfl (hb hby d10_8) rfl ?_
      show Steps p.tables e below (s₁.setTop (mkF m 9 #[.val (.ref a1), .val (.int p2), .val (.int p3), .val (.int p4)] [(.int p2)])) _
      refine XS.ifNo X0.here hx rfl (hb hby d10_9) rfl ((if0 _ _).trans (tlt (by rw [h2]; decide)).2.2.2) ?_
      show Steps p.tables e below (s₁.setTop (mkF m 12 #[.val (.ref a1), .val (.int p2), .val (.int p3), .val (.int p4)] [])) _
      refine XS.aloadN X0.here hx rfl (hb hby d10_12) rfl rfl ?_
      show Steps p.tables e below (s₁.setTop (mkF m 13 #[.val (.ref a1), .val (.int p2), .val (.int p3), .val (.int p4)] [(.ref a1)])) _
      refine XS.iconst X0.here hx rfl (hb hby d10_13) ?_
      exact k)
  obtain ⟨cl4, Ac4, hin4, hat4⟩ := V1.at (j := (0 : Int32)) (i := 0) rfl (by decide)
  have ac5 : ∀ t, Steps p.tables e below (s₁.setTop (mkF m 29 #[.val (.ref a1), .val (.int p2), .val (.int p3), .val (.int p4)] [(.int (1 : Int32)), (.ref a1)])) t → Steps p.tables e below (s₁.setTop (entryFrame m #[(.ref a1), (.int p2), (.int p3), (.int p4)] 4)) t := fun t k => ac3 t (by
      show Steps p.tables e below (s₁.setTop (mkF m 14 #[.val (.ref a1), .val (.int p2), .val (.int p3), .val (.int p4)] [(.int (0 : Int32)), (.ref a1)])) _
      refine X0.baloadBytes hx (j := (0 : Int32)) (v := (.int (p3.toInt8.toInt32))) (by rw [e0]; exact Ac4.1) (State.isArrayOf_alike hZ.alike Ac4.2.1) Ac4.2.2 hin4 (hat4.trans (congrArg some v0)) (g := (mkF m 14 #[.val (.ref a1), .val (.int p2), .val (.int p3), .val (.int p4)] [(.int (0 : Int32)), (.ref a1)])) rfl rfl (hb hby d10_14) _ ?_
      show Steps p.tables e below (s₁.setTop (mkF m 15 #[.val (.ref a1), .val (.int p2), .val (.int p3), .val (.int p4)] [(.int (p3.toInt8.toInt32))])) _
      refine XS.iloadN X0.here hx rfl (hb hby d10_15) rfl ?_
      show Steps p.tables e below (s₁.setTop (mkF m 16 #[.val (.ref a1), .val (.int p2), .val (.int p3), .val (.int p4)] [(.int p3), (.int (p3.toInt8.toInt32))])) _
      refine XS.i2b X0.here hx rfl (hb hby d10_16) rfl ?_
      show Steps p.tables e below (s₁.setTop (mkF m 17 #[.val (.ref a1), .val (.int p2), .val (.int p3), .val (.int p4)] [(.int (p3.toInt8.toInt32)), (.int (p3.toInt8.toInt32))])) _
      refine XS.icmpYes X0.here hx rfl (pc0 := 17) (pc' := 22) rfl (hb hby d10_17) rfl (teq rfl).1 (by decide) (by decide) ?_
      show Steps p.tables e below (s₁.setTop (mkF m 22 #[.val (.ref a1), .val (.int p2), .val (.int p3), .val (.int p4)] [])) _
      refine XS.iloadN X0.here hx rfl (hb hby d10_22) rfl ?_
      show Steps p.tables e below (s₁.setTop (mkF m 23 #[.val (.ref a1), .val (.int p2), .val (.int p3), .val (.int p4)] [(.int p2)])) _
      refine XS.iconst X0.here hx rfl (hb hby d10_23) ?_
      show Steps p.tables e below (s₁.setTop (mkF m 24 #[.val (.ref a1), .val (.int p2), .val (.int p3), .val (.int p4)] [(.int (1 : Int32)), (.int p2)])) _
      refine XS.icmpNo X0.here hx rfl (hb hby d10_24) rfl (tlt (by rw [h2]; decide)).2.2.2 ?_
      show Steps p.tables e below (s₁.setTop (mkF m 27 #[.val (.ref a1), .val (.int p2), .val (.int p3), .val (.int p4)] [])) _
      refine XS.aloadN X0.here hx rfl (hb hby d10_27) rfl rfl ?_
      show Steps p.tables e below (s₁.setTop (mkF m 28 #[.val (.ref a1), .val (.int p2), .val (.int p3), .val (.int p4)] [(.ref a1)])) _
      refine XS.iconst X0.here hx rfl (hb hby d10_28) ?_
      exact k)
  obtain ⟨cl6, Ac6, hin6, hat6⟩ := V1.at (j := (1 : Int32)) (i := 1) rfl (by decide)
  have ac7 : ∀ t, Steps p.tables e below (s₁.setTop (mkF m 56 #[.val (.ref a1), .val (.int p2), .val (.int p3), .val (.int p4)] [(.int (1 : Int32))])) t → Steps p.tables e below (s₁.setTop (entryFrame m #[(.ref a1), (.int p2), (.int p3), (.int p4)] 4)) t := fun t k => ac5 t (by
      show Steps p.tables e below (s₁.setTop (mkF m 29 #[.val (.ref a1), .val (.int p2), .val (.int p3), .val (.int p4)] [(.int (1 : Int32)), (.ref a1)])) _
      refine X0.baloadBytes hx (j := (1 : Int32)) (v := (.int (((p3.toUInt32 >>> ((8 : Int32) &&& 31).toUInt32).toInt32).toInt8.toInt32))) (by rw [e0]; exact Ac6.1) (State.isArrayOf_alike hZ.alike Ac6.2.1) Ac6.2.2 hin6 (hat6.trans (congrArg some v1)) (g := (mkF m 29 #[.val (.ref a1), .val (.int p2), .val (.int p3), .val (.int p4)] [(.int (1 : Int32)), (.ref a1)])) rfl rfl (hb hby d10_29) _ ?_
      show Steps p.tables e below (s₁.setTop (mkF m 30 #[.val (.ref a1), .val (.int p2), .val (.int p3), .val (.int p4)] [(.int (((p3.toUInt32 >>> ((8 : Int32) &&& 31).toUInt32).toInt32).toInt8.toInt32))])) _
      refine XS.iloadN X0.here hx rfl (hb hby d10_30) rfl ?_
      show Steps p.tables e below (s₁.setTop (mkF m 31 #[.val (.ref a1), .val (.int p2), .val (.int p3), .val (.int p4)] [(.int p3), (.int (((p3.toUInt32 >>> ((8 : Int32) &&& 31).toUInt32).toInt32).toInt8.toInt32))])) _
      refine XS.bipush X0.here hx rfl (hb hby d10_31) ?_
      show Steps p.tables e below (s₁.setTop (mkF m 33 #[.val (.ref a1), .val (.int p2), .val (.int p3), .val (.int p4)] [(.int (8 : Int32)), (.int p3), (.int (((p3.toUInt32 >>> ((8 : Int32) &&& 31).toUInt32).toInt32).toInt8.toInt32))])) _
      refine XS.iushr X0.here hx rfl (hb hby d10_33) rfl ?_
      show Steps p.tables e below (s₁.setTop (mkF m 34 #[.val (.ref a1), .val (.int p2), .val (.int p3), .val (.int p4)] [(.int ((p3.toUInt32 >>> ((8 : Int32) &&& 31).toUInt32).toInt32)), (.int (((p3.toUInt32 >>> ((8 : Int32) &&& 31).toUInt32).toInt32).toInt8.toInt32))])) _
      refine XS.i2b X0.here hx rfl (hb hby d10_34) rfl ?_
      show Steps p.tables e below (s₁.setTop (mkF m 35 #[.val (.ref a1), .val (.int p2), .val (.int p3), .val (.int p4)] [(.int (((p3.toUInt32 >>> ((8 : Int32) &&& 31).toUInt32).toInt32).toInt8.toInt32)), (.int (((p3.toUInt32 >>> ((8 : Int32) &&& 31).toUInt32).toInt32).toInt8.toInt32))])) _
      refine XS.icmpYes X0.here hx rfl (pc0 := 35) (pc' := 40) rfl (hb hby d10_35) rfl (teq rfl).1 (by decide) (by decide) ?_
      show Steps p.tables e below (s₁.setTop (mkF m 40 #[.val (.ref a1), .val (.int p2), .val (.int p3), .val (.int p4)] [])) _
      refine XS.iloadN X0.here hx rfl (hb hby d10_40) rfl ?_
      show Steps p.tables e below (s₁.setTop (mkF m 41 #[.val (.ref a1), .val (.int p2), .val (.int p3), .val (.int p4)] [(.int p2)])) _
      refine XS.iconst X0.here hx rfl (hb hby d10_41) ?_
      show Steps p.tables e below (s₁.setTop (mkF m 42 #[.val (.ref a1), .val (.int p2), .val (.int p3), .val (.int p4)] [(.int (2 : Int32)), (.int p2)])) _
      refine XS.icmpYes X0.here hx rfl (pc0 := 42) (pc' := 55) rfl (hb hby d10_42) rfl (flt (by rw [h2]; decide)).2.2.2 (by decide) (by decide) ?_
      show Steps p.tables e below (s₁.setTop (mkF m 55 #[.val (.ref a1), .val (.int p2), .val (.int p3), .val (.int p4)] [])) _
      refine XS.iconst X0.here hx rfl (hb hby d10_55) ?_
      exact k)
  obtain ⟨fs, hr, hrun, hended, hW, hsame⟩ := X0.leave (v := some (.int (1 : Int32))) (fun h => by rw [Bd.returns] at h; cases h) (BodyLoose.notSynchronized Bd)
  refine ⟨_, _, ac7 _ ?_, hrun, hended, _, _, rfl, ?_, ⟨_, rfl⟩, hW, hsame.mono (by decide) (by decide)⟩
  · show Steps p.tables e below (s₁.setTop (mkF m 56 #[.val (.ref a1), .val (.int p2), .val (.int p3), .val (.int p4)] [(.int (1 : Int32))])) _
    exact retN X0 hx (t := .boolean) Bd.returns (by simp) (hb hby d10_56) hr
  · show Q10_2 Z a1 p2 p3 p4 f h0 n0 _ s₁.heap _
    rw [e0]
    exact ⟨rfl, N0, rfl⟩
theorem ef_rm10_3 (m : MethodId) (x0 : Addr) (x1 : Int32) (x2 : Int32) (x3 : Int32) : entryFrame m #[(.ref x0), (.int x1), (.int x2), (.int x3)] 4 = mkF m 0 #[.val (.ref x0), .val (.int x1), .val (.int x2), .val (.int x3)] [] := by first | (simp [entryFrame, mkF, argsToLocals, Value.category]; done) | rfl
def Q10_3 (Z : State) (a1 : Addr) (p2 : Int32) (p3 : Int32) (p4 : Int32) (f : Nat → Value) (h0 : Heap) (n0 : Nat) (v : Option Value) (h : Heap) (L : List Loc) : Prop := v = some (.int 1) ∧ Fr n0 L ∧ h = h0
set_option maxRecDepth 65536 in
set_option maxHeartbeats 40000000 in
theorem rm10_3 (l : Launch) (Z : State) (a0 : Array Value) (hw : ∀ d ∈ tables_1, d.before a0 Z = true) (ws : List Jvm.Cond) (a1 : Addr) (p2 : Int32) (p3 : Int32) (p4 : Int32) (f : Nat → Value) (h0 : Heap) (n0 : Nat) (Z0 : n0 ≤ h0.size) (V1 : own_Ar Z h0 a1 .byte 3 f) (h2 : p2 = 3) (v0 : f 0 = .int (p3.toInt8.toInt32)) (v1 : f 1 = .int (((p3.toUInt32 >>> ((8 : Int32) &&& 31).toUInt32).toInt32).toInt8.toInt32)) (v2 : f 2 = .int (p4.toInt8.toInt32)) :
    MetFree l (⟨"com/example/votal/votal/log/LogRecordGetDigestPinLaw", "same", "([BIII)Z"⟩ : MethodName) (head1 (Jvm.Cond.code (⟨"com/example/votal/votal/log/LogRecordGetDigestPinLaw", "same", "([BIII)Z"⟩ : MethodName) method_3_code 4 (some .boolean) :: ws) ({ frames := 0, cells := 0, slots := 0, locals := 0 } : Room)) (fun a U => a = #[(.ref a1), (.int p2), (.int p3), (.int p4)] ∧ Z.Warmed39 U.vm ∧ U.heap = h0) (fun _ _ _ _ _ => True) (fun _ U o U' => ∃ v L, o = .returned v ∧ Q10_3 Z a1 p2 p3 p4 f h0 n0 v U'.heap L ∧ FrameEnd U o U' L ({ frames := 0, cells := 0, slots := 0, locals := 0 } : Room).cells ({ frames := 0, cells := 0, slots := 0, locals := 0 } : Room).slots) := by
  refine MetFree.of_bodySF (plainFor_of_name pn_10) hisR ?_
  intro p e s m args below meth c s₁ Bd hml0 hP hK
  obtain ⟨rfl, hZ, hh⟩ := hP
  have hx := Bd.exec
  have hby := Bd.bytes
  have hml : c.maxLocals = 4 := hml0
  have hown : s.vm.findClass "com/example/votal/votal/log/LogRecordGetDigestPinLaw" = some m.cls := findClass_of_methodNamed Bd.named
  have hnm := (name_of_methodNamed Bd.named Bd.method).1
  have X0 : Stand p l e ({ frames := 0, cells := 0, slots := 0, locals := 0 } : Room) s m #[(.ref a1), (.int p2), (.int p3), (.int p4)] below meth c s₁ [] 0 0 := Stand.of_body Bd
  have e0 : s₁.heap = h0 := by rw [← hh, Bd.state]; rfl
  have N0 := Fr.nil n0
  have a0s : ∀ t, Steps p.tables e below (s₁.setTop (mkF m 0 #[.val (.ref a1), .val (.int p2), .val (.int p3), .val (.int p4)] [])) t → Steps p.tables e below (s₁.setTop (entryFrame m #[(.ref a1), (.int p2), (.int p3), (.int p4)] 4)) t := fun t k => castTop (ef_rm10_3 m a1 p2 p3 p4) k
  have ac1 : ∀ t, Steps p.tables e below (s₁.setTop (mkF m 1 #[.val (.ref a1), .val (.int p2), .val (.int p3), .val (.int p4)] [(.ref a1)])) t → Steps p.tables e below (s₁.setTop (entryFrame m #[(.ref a1), (.int p2), (.int p3), (.int p4)] 4)) t := fun t k => a0s t (by
      show Steps p.tables e below (s₁.setTop (mkF m 0 #[.val (.ref a1), .val (.int p2), .val (.int p3), .val (.int p4)] [])) _
      refine XS.aloadN X0.here hx rfl (hb hby d10_0) rfl rfl ?_
      exact k)
  obtain ⟨cl2, Ac2, hl2, hb2⟩ := V1.len
  have ac3 : ∀ t, Steps p.tables e below (s₁.setTop (mkF m 14 #[.val (.ref a1), .val (.int p2), .val (.int p3), .val (.int p4)] [(.int (0 : Int32)), (.ref a1)])) t → Steps p.tables e below (s₁.setTop (entryFrame m #[(.ref a1), (.int p2), (.int p3), (.int p4)] 4)) t := fun t k => ac1 t (by
      show Steps p.tables e below (s₁.setTop (mkF m 1 #[.val (.ref a1), .val (.int p2), .val (.int p3), .val (.int p4)] [(.ref a1)])) _
      refine X0.arraylength hx (by rw [e0]; exact Ac2.1) (State.isArrayOf_alike hZ.alike Ac2.2.1) (g := (mkF m 1 #[.val (.ref a1), .val (.int p2), .val (.int p3), .val (.int p4)] [(.ref a1)])) rfl rfl (hb hby d10_1) _ ?_
      rw [hl2]
      show Steps p.tables e below (s₁.setTop (mkF m 2 #[.val (.ref a1), .val (.int p2), .val (.int p3), .val (.int p4)] [(.int (Int32.ofNat 3))])) _
      refine XS.iloadN X0.here hx rfl (hb hby d10_2) rfl ?_
      show Steps p.tables e below (s₁.setTop (mkF m 3 #[.val (.ref a1), .val (.int p2), .val (.int p3), .val (.int p4)] [(.int p2), (.int (Int32.ofNat 3))])) _
      refine XS.icmpYes X0.here hx rfl (pc0 := 3) (pc' := 8) rfl (hb hby d10_3) rfl (teq (by rw [h2]; rfl)).1 (by decide) (by decide) ?_
      show Steps p.tables e below (s₁.setTop (mkF m 8 #[.val (.ref a1), .val (.int p2), .val (.int p3), .val (.int p4)] [])) _
      refine XS.iloadN X0.here hx rfl (hb hby d10_8) rfl ?_
      show Steps p.tables e below (s₁.setTop (mkF m 9 #[.val (.ref a1), .val (.int p2), .val (.int p3), .val (.int p4)] [(.int p2)])) _
      refine XS.ifNo X0.here hx rfl (hb hby d10_9) rfl ((if0 _ _).trans (tlt (by rw [h2]; decide)).2.2.2) ?_
      show Steps p.tables e below (s₁.setTop (mkF m 12 #[.val (.ref a1), .val (.int p2), .val (.int p3), .val (.int p4)] [])) _
      refine XS.aloadN X0.here hx rfl (hb hby d10_12) rfl rfl ?_
      show Steps p.tables e below (s₁.setTop (mkF m 13 #[.val (.ref a1), .val (.int p2), .val (.int p3), .val (.int p4)] [(.ref a1)])) _
      refine XS.iconst X0.here hx rfl (hb hby d10_13) ?_
      exact k)
  obtain ⟨cl4, Ac4, hin4, hat4⟩ := V1.at (j := (0 : Int32)) (i := 0) rfl (by decide)
  have ac5 : ∀ t, Steps p.tables e below (s₁.setTop (mkF m 29 #[.val (.ref a1), .val (.int p2), .val (.int p3), .val (.int p4)] [(.int (1 : Int32)), (.ref a1)])) t → Steps p.tables e below (s₁.setTop (entryFrame m #[(.ref a1), (.int p2), (.int p3), (.int p4)] 4)) t := fun t k => ac3 t (by
      show Steps p.tables e below (s₁.setTop (mkF m 14 #[.val (.ref a1), .val (.int p2), .val (.int p3), .val (.int p4)] [(.int (0 : Int32)), (.ref a1)])) _
      refine X0.baloadBytes hx (j := (0 : Int32)) (v := (.int (p3.toInt8.toInt32))) (by rw [e0]; exact Ac4.1) (State.isArrayOf_alike hZ.alike Ac4.2.1) Ac4.2.2 hin4 (hat4.trans (congrArg some v0)) (g := (mkF m 14 #[.val (.ref a1), .val (.int p2), .val (.int p3), .val (.int p4)] [(.int (0 : Int32)), (.ref a1)])) rfl rfl (hb hby d10_14) _ ?_
      show Steps p.tables e below (s₁.setTop (mkF m 15 #[.val (.ref a1), .val (.int p2), .val (.int p3), .val (.int p4)] [(.int (p3.toInt8.toInt32))])) _
      refine XS.iloadN X0.here hx rfl (hb hby d10_15) rfl ?_
      show Steps p.tables e below (s₁.setTop (mkF m 16 #[.val (.ref a1), .val (.int p2), .val (.int p3), .val (.int p4)] [(.int p3), (.int (p3.toInt8.toInt32))])) _
      refine XS.i2b X0.here hx rfl (hb hby d10_16) rfl ?_
      show Steps p.tables e below (s₁.setTop (mkF m 17 #[.val (.ref a1), .val (.int p2), .val (.int p3), .val (.int p4)] [(.int (p3.toInt8.toInt32)), (.int (p3.toInt8.toInt32))])) _
      refine XS.icmpYes X0.here hx rfl (pc0 := 17) (pc' := 22) rfl (hb hby d10_17) rfl (teq rfl).1 (by decide) (by decide) ?_
      show Steps p.tables e below (s₁.setTop (mkF m 22 #[.val (.ref a1), .val (.int p2), .val (.int p3), .val (.int p4)] [])) _
      refine XS.iloadN X0.here hx rfl (hb hby d10_22) rfl ?_
      show Steps p.tables e below (s₁.setTop (mkF m 23 #[.val (.ref a1), .val (.int p2), .val (.int p3), .val (.int p4)] [(.int p2)])) _
      refine XS.iconst X0.here hx rfl (hb hby d10_23) ?_
      show Steps p.tables e below (s₁.setTop (mkF m 24 #[.val (.ref a1), .val (.int p2), .val (.int p3), .val (.int p4)] [(.int (1 : Int32)), (.int p2)])) _
      refine XS.icmpNo X0.here hx rfl (hb hby d10_24) rfl (tlt (by rw [h2]; decide)).2.2.2 ?_
      show Steps p.tables e below (s₁.setTop (mkF m 27 #[.val (.ref a1), .val (.int p2), .val (.int p3), .val (.int p4)] [])) _
      refine XS.aloadN X0.here hx rfl (hb hby d10_27) rfl rfl ?_
      show Steps p.tables e below (s₁.setTop (mkF m 28 #[.val (.ref a1), .val (.int p2), .val (.int p3), .val (.int p4)] [(.ref a1)])) _
      refine XS.iconst X0.here hx rfl (hb hby d10_28) ?_
      exact k)
  obtain ⟨cl6, Ac6, hin6, hat6⟩ := V1.at (j := (1 : Int32)) (i := 1) rfl (by decide)
  have ac7 : ∀ t, Steps p.tables e below (s₁.setTop (mkF m 47 #[.val (.ref a1), .val (.int p2), .val (.int p3), .val (.int p4)] [(.int (2 : Int32)), (.ref a1)])) t → Steps p.tables e below (s₁.setTop (entryFrame m #[(.ref a1), (.int p2), (.int p3), (.int p4)] 4)) t := fun t k => ac5 t (by
      show Steps p.tables e below (s₁.setTop (mkF m 29 #[.val (.ref a1), .val (.int p2), .val (.int p3), .val (.int p4)] [(.int (1 : Int32)), (.ref a1)])) _
      refine X0.baloadBytes hx (j := (1 : Int32)) (v := (.int (((p3.toUInt32 >>> ((8 : Int32) &&& 31).toUInt32).toInt32).toInt8.toInt32))) (by rw [e0]; exact Ac6.1) (State.isArrayOf_alike hZ.alike Ac6.2.1) Ac6.2.2 hin6 (hat6.trans (congrArg some v1)) (g := (mkF m 29 #[.val (.ref a1), .val (.int p2), .val (.int p3), .val (.int p4)] [(.int (1 : Int32)), (.ref a1)])) rfl rfl (hb hby d10_29) _ ?_
      show Steps p.tables e below (s₁.setTop (mkF m 30 #[.val (.ref a1), .val (.int p2), .val (.int p3), .val (.int p4)] [(.int (((p3.toUInt32 >>> ((8 : Int32) &&& 31).toUInt32).toInt32).toInt8.toInt32))])) _
      refine XS.iloadN X0.here hx rfl (hb hby d10_30) rfl ?_
      show Steps p.tables e below (s₁.setTop (mkF m 31 #[.val (.ref a1), .val (.int p2), .val (.int p3), .val (.int p4)] [(.int p3), (.int (((p3.toUInt32 >>> ((8 : Int32) &&& 31).toUInt32).toInt32).toInt8.toInt32))])) _
      refine XS.bipush X0.here hx rfl (hb hby d10_31) ?_
      show Steps p.tables e below (s₁.setTop (mkF m 33 #[.val (.ref a1), .val (.int p2), .val (.int p3), .val (.int p4)] [(.int (8 : Int32)), (.int p3), (.int (((p3.toUInt32 >>> ((8 : Int32) &&& 31).toUInt32).toInt32).toInt8.toInt32))])) _
      refine XS.iushr X0.here hx rfl (hb hby d10_33) rfl ?_
      show Steps p.tables e below (s₁.setTop (mkF m 34 #[.val (.ref a1), .val (.int p2), .val (.int p3), .val (.int p4)] [(.int ((p3.toUInt32 >>> ((8 : Int32) &&& 31).toUInt32).toInt32)), (.int (((p3.toUInt32 >>> ((8 : Int32) &&& 31).toUInt32).toInt32).toInt8.toInt32))])) _
      refine XS.i2b X0.here hx rfl (hb hby d10_34) rfl ?_
      show Steps p.tables e below (s₁.setTop (mkF m 35 #[.val (.ref a1), .val (.int p2), .val (.int p3), .val (.int p4)] [(.int (((p3.toUInt32 >>> ((8 : Int32) &&& 31).toUInt32).toInt32).toInt8.toInt32)), (.int (((p3.toUInt32 >>> ((8 : Int32) &&& 31).toUInt32).toInt32).toInt8.toInt32))])) _
      refine XS.icmpYes X0.here hx rfl (pc0 := 35) (pc' := 40) rfl (hb hby d10_35) rfl (teq rfl).1 (by decide) (by decide) ?_
      show Steps p.tables e below (s₁.setTop (mkF m 40 #[.val (.ref a1), .val (.int p2), .val (.int p3), .val (.int p4)] [])) _
      refine XS.iloadN X0.here hx rfl (hb hby d10_40) rfl ?_
      show Steps p.tables e below (s₁.setTop (mkF m 41 #[.val (.ref a1), .val (.int p2), .val (.int p3), .val (.int p4)] [(.int p2)])) _
      refine XS.iconst X0.here hx rfl (hb hby d10_41) ?_
      show Steps p.tables e below (s₁.setTop (mkF m 42 #[.val (.ref a1), .val (.int p2), .val (.int p3), .val (.int p4)] [(.int (2 : Int32)), (.int p2)])) _
      refine XS.icmpNo X0.here hx rfl (hb hby d10_42) rfl (tlt (by rw [h2]; decide)).2.2.2 ?_
      show Steps p.tables e below (s₁.setTop (mkF m 45 #[.val (.ref a1), .val (.int p2), .val (.int p3), .val (.int p4)] [])) _
      refine XS.aloadN X0.here hx rfl (hb hby d10_45) rfl rfl ?_
      show Steps p.tables e below (s₁.setTop (mkF m 46 #[.val (.ref a1), .val (.int p2), .val (.int p3), .val (.int p4)] [(.ref a1)])) _
      refine XS.iconst X0.here hx rfl (hb hby d10_46) ?_
      exact k)
  obtain ⟨cl8, Ac8, hin8, hat8⟩ := V1.at (j := (2 : Int32)) (i := 2) rfl (by decide)
  have ac9 : ∀ t, Steps p.tables e below (s₁.setTop (mkF m 56 #[.val (.ref a1), .val (.int p2), .val (.int p3), .val (.int p4)] [(.int (1 : Int32))])) t → Steps p.tables e below (s₁.setTop (entryFrame m #[(.ref a1), (.int p2), (.int p3), (.int p4)] 4)) t := fun t k => ac7 t (by
      show Steps p.tables e below (s₁.setTop (mkF m 47 #[.val (.ref a1), .val (.int p2), .val (.int p3), .val (.int p4)] [(.int (2 : Int32)), (.ref a1)])) _
      refine X0.baloadBytes hx (j := (2 : Int32)) (v := (.int (p4.toInt8.toInt32))) (by rw [e0]; exact Ac8.1) (State.isArrayOf_alike hZ.alike Ac8.2.1) Ac8.2.2 hin8 (hat8.trans (congrArg some v2)) (g := (mkF m 47 #[.val (.ref a1), .val (.int p2), .val (.int p3), .val (.int p4)] [(.int (2 : Int32)), (.ref a1)])) rfl rfl (hb hby d10_47) _ ?_
      show Steps p.tables e below (s₁.setTop (mkF m 48 #[.val (.ref a1), .val (.int p2), .val (.int p3), .val (.int p4)] [(.int (p4.toInt8.toInt32))])) _
      refine XS.iloadN X0.here hx rfl (hb hby d10_48) rfl ?_
      show Steps p.tables e below (s₁.setTop (mkF m 49 #[.val (.ref a1), .val (.int p2), .val (.int p3), .val (.int p4)] [(.int p4), (.int (p4.toInt8.toInt32))])) _
      refine XS.i2b X0.here hx rfl (hb hby d10_49) rfl ?_
      show Steps p.tables e below (s₁.setTop (mkF m 50 #[.val (.ref a1), .val (.int p2), .val (.int p3), .val (.int p4)] [(.int (p4.toInt8.toInt32)), (.int (p4.toInt8.toInt32))])) _
      refine XS.icmpYes X0.here hx rfl (pc0 := 50) (pc' := 55) rfl (hb hby d10_50) rfl (teq rfl).1 (by decide) (by decide) ?_
      show Steps p.tables e below (s₁.setTop (mkF m 55 #[.val (.ref a1), .val (.int p2), .val (.int p3), .val (.int p4)] [])) _
      refine XS.iconst X0.here hx rfl (hb hby d10_55) ?_
      exact k)
  obtain ⟨fs, hr, hrun, hended, hW, hsame⟩ := X0.leave (v := some (.int (1 : Int32))) (fun h => by rw [Bd.returns] at h; cases h) (BodyLoose.notSynchronized Bd)
  refine ⟨_, _, ac9 _ ?_, hrun, hended, _, _, rfl, ?_, ⟨_, rfl⟩, hW, hsame.mono (by decide) (by decide)⟩
  · show Steps p.tables e below (s₁.setTop (mkF m 56 #[.val (.ref a1), .val (.int p2), .val (.int p3), .val (.int p4)] [(.int (1 : Int32))])) _
    exact retN X0 hx (t := .boolean) Bd.returns (by simp) (hb hby d10_56) hr
  · show Q10_3 Z a1 p2 p3 p4 f h0 n0 _ s₁.heap _
    rw [e0]
    exact ⟨rfl, N0, rfl⟩
theorem ef_rm0 (m : MethodId) (x0 : Int32) (x1 : Int32) (x2 : Int32) (x3 : Int32) : entryFrame m #[(.int x0), (.int x1), (.int x2), (.int x3)] maxLocals = mkF m 0 #[.val (.int x0), .val (.int x1), .val (.int x2), .val (.int x3), .unset, .unset, .unset, .unset, .unset, .unset, .unset, .unset, .unset] [] := by first | (simp [entryFrame, mkF, argsToLocals, Value.category, maxLocals]; done) | rfl
def Q0 (Z : State) (p1 : Int32) (p2 : Int32) (p3 : Int32) (p4 : Int32) (cs : Int32) (tN : Addr) (tB : Addr) (nN : Addr) (nB : Addr) (h0 : Heap) (n0 : Nat) (v : Option Value) (h : Heap) (L : List Loc) : Prop := v = some (.int 1) ∧ Fr n0 L
set_option maxRecDepth 65536 in
set_option maxHeartbeats 40000000 in
theorem rm0 (l : Launch) (Z : State) (a0 : Array Value) (hw : ∀ d ∈ tables_1, d.before a0 Z = true) (ws : List Jvm.Cond) (p1 : Int32) (p2 : Int32) (p3 : Int32) (p4 : Int32) (cs : Int32) (tN : Addr) (tB : Addr) (nN : Addr) (nB : Addr) (h0 : Heap) (n0 : Nat) (Z0 : n0 ≤ h0.size) (Sc : Sta Z h0 "java/lang/String" "COMPACT_STRINGS" "Z" (.int cs)) (hcs : ¬ cs = 0) (SN : Sta Z h0 "com/example/votal/votal/log/Template" "IMA_NG" "Lcom/example/votal/votal/log/Template;" (.ref tN)) (SB : Sta Z h0 "com/example/votal/votal/log/Template" "IMA_BUF" "Lcom/example/votal/votal/log/Template;" (.ref tB)) (EN : Exa Z h0 tN "com/example/votal/votal/log/Template") (EB : Exa Z h0 tB "com/example/votal/votal/log/Template") (FN : Fld Z h0 tN "com/example/votal/votal/log/Template" "mName" "Ljava/lang/String;" (.ref nN)) (FB : Fld Z h0 tB "com/example/votal/votal/log/Template" "mName" "Ljava/lang/String;" (.ref nB)) :
    MetFree l x (head1 (Jvm.Cond.code x code maxLocals ret :: ws) room_1) (fun a U => a = #[(.int p1), (.int p2), (.int p3), (.int p4)] ∧ Z.Warmed39 U.vm ∧ U.heap = h0) (fun _ _ _ _ _ => True) (fun _ U o U' => ∃ v L, o = .returned v ∧ Q0 Z p1 p2 p3 p4 cs tN tB nN nB h0 n0 v U'.heap L ∧ FrameEnd U o U' L room_1.cells room_1.slots) := by
  refine MetFree.of_bodySF (plainFor_of_name pn_0) hisR ?_
  intro p e s m args below meth c s₁ Bd hml0 hP hK
  obtain ⟨rfl, hZ, hh⟩ := hP
  have hx := Bd.exec
  have hby := Bd.bytes
  have hml : c.maxLocals = 13 := hml0
  have hown : s.vm.findClass "com/example/votal/votal/log/LogRecordGetDigestPinLaw" = some m.cls := findClass_of_methodNamed Bd.named
  have hnm := (name_of_methodNamed Bd.named Bd.method).1
  have X0 : Stand p l e room_1 s m #[(.int p1), (.int p2), (.int p3), (.int p4)] below meth c s₁ [] 0 0 := Stand.of_body Bd
  have e0 : s₁.heap = h0 := by rw [← hh, Bd.state]; rfl
  have N0 := Fr.nil n0
  have a0s : ∀ t, Steps p.tables e below (s₁.setTop (mkF m 0 #[.val (.int p1), .val (.int p2), .val (.int p3), .val (.int p4), .unset, .unset, .unset, .unset, .unset, .unset, .unset, .unset, .unset] [])) t → Steps p.tables e below (s₁.setTop (entryFrame m #[(.int p1), (.int p2), (.int p3), (.int p4)] maxLocals)) t := fun t k => castTop (ef_rm0 m p1 p2 p3 p4) k
  have ac1 : ∀ t, Steps p.tables e below (s₁.setTop (mkF m 2 #[.val (.int p1), .val (.int p2), .val (.int p3), .val (.int p4), .unset, .unset, .unset, .unset, .unset, .unset, .unset, .unset, .unset] [(.int (20 : Int32))])) t → Steps p.tables e below (s₁.setTop (entryFrame m #[(.int p1), (.int p2), (.int p3), (.int p4)] maxLocals)) t := fun t k => a0s t (by
      show Steps p.tables e below (s₁.setTop (mkF m 0 #[.val (.int p1), .val (.int p2), .val (.int p3), .val (.int p4), .unset, .unset, .unset, .unset, .unset, .unset, .unset, .unset, .unset] [])) _
      refine XS.bipush X0.here hx rfl (hb hby at_0) ?_
      exact k)
  obtain ⟨T2, h2, k2, X2, e2, E2, A2, st2⟩ := newP X0 hx hZ (hw _ (List.mem_of_getElem? (i := 0) rfl)) e0 (g := (mkF m 2 #[.val (.int p1), .val (.int p2), .val (.int p3), .val (.int p4), .unset, .unset, .unset, .unset, .unset, .unset, .unset, .unset, .unset] [(.int (20 : Int32))])) rfl (hb hby at_2) rfl (by decide) (cap := 20) (by decide) (by decide) (by decide) (by decide)
  obtain ⟨b2, g2⟩ : ∃ z, z = h0.size := ⟨_, rfl⟩
  rw [← g2] at A2 st2
  have g_b2 : n0 ≤ b2 := Nat.le_trans Z0 (Nat.le_of_eq g2.symm)
  have sz_b2 : h0.size ≤ b2 := Nat.le_trans (Keep.refl h0 []).1 (Nat.le_of_eq g2.symm)
  have Z2 : n0 ≤ h2.size := Nat.le_trans Z0 E2.1
  have Kp3 : Keep h0 h2 [] := (Keep.refl h0 []).ext E2
  have V2 : own_Ar Z h2 b2 .byte 20 (fun _ => (.int (0 : Int32))) := own_Ar.new A2 rfl
  have ac4 : ∀ t, Steps p.tables e below (T2.setTop (mkF m 4 #[.val (.int p1), .val (.int p2), .val (.int p3), .val (.int p4), .unset, .unset, .unset, .unset, .unset, .unset, .unset, .unset, .unset] [(.ref b2)])) t → Steps p.tables e below (s₁.setTop (entryFrame m #[(.int p1), (.int p2), (.int p3), (.int p4)] maxLocals)) t := fun t k => ac1 t (st2 t k)
  have ac5 : ∀ t, Steps p.tables e below (T2.setTop (mkF m 11 #[.val (.int p1), .val (.int p2), .val (.int p3), .val (.int p4), .val (.ref b2), .unset, .unset, .unset, .unset, .unset, .unset, .unset, .unset] [(.int (p3.toInt8.toInt32)), (.int (0 : Int32)), (.ref b2)])) t → Steps p.tables e below (s₁.setTop (entryFrame m #[(.int p1), (.int p2), (.int p3), (.int p4)] maxLocals)) t := fun t k => ac4 t (by
      show Steps p.tables e below (T2.setTop (mkF m 4 #[.val (.int p1), .val (.int p2), .val (.int p3), .val (.int p4), .unset, .unset, .unset, .unset, .unset, .unset, .unset, .unset, .unset] [(.ref b2)])) _
      refine XS.astore X2.here hx rfl (hb hby at_4) rfl rfl (l' := #[.val (.int p1), .val (.int p2), .val (.int p3), .val (.int p4), .val (.ref b2), .unset, .unset, .unset, .unset, .unset, .unset, .unset, .unset]) rfl ?_
      show Steps p.tables e below (T2.setTop (mkF m 6 #[.val (.int p1), .val (.int p2), .val (.int p3), .val (.int p4), .val (.ref b2), .unset, .unset, .unset, .unset, .unset, .unset, .unset, .unset] [])) _
      refine XS.aload X2.here hx rfl (hb hby at_6) rfl rfl ?_
      show Steps p.tables e below (T2.setTop (mkF m 8 #[.val (.int p1), .val (.int p2), .val (.int p3), .val (.int p4), .val (.ref b2), .unset, .unset, .unset, .unset, .unset, .unset, .unset, .unset] [(.ref b2)])) _
      refine XS.iconst X2.here hx rfl (hb hby at_8) ?_
      show Steps p.tables e below (T2.setTop (mkF m 9 #[.val (.int p1), .val (.int p2), .val (.int p3), .val (.int p4), .val (.ref b2), .unset, .unset, .unset, .unset, .unset, .unset, .unset, .unset] [(.int (0 : Int32)), (.ref b2)])) _
      refine XS.iloadN X2.here hx rfl (hb hby at_9) rfl ?_
      show Steps p.tables e below (T2.setTop (mkF m 10 #[.val (.int p1), .val (.int p2), .val (.int p3), .val (.int p4), .val (.ref b2), .unset, .unset, .unset, .unset, .unset, .unset, .unset, .unset] [(.int p3), (.int (0 : Int32)), (.ref b2)])) _
      refine XS.i2b X2.here hx rfl (hb hby at_10) rfl ?_
      exact k)
  obtain ⟨cl6, Ac6, hin6, -⟩ := V2.at (j := (0 : Int32)) (i := 0) rfl (by decide)
  obtain ⟨T6, h6, X6, e6, W6, st6⟩ := stB X2 hx hZ e2 Ac6 (j := (0 : Int32)) hin6 (g := (mkF m 11 #[.val (.int p1), .val (.int p2), .val (.int p3), .val (.int p4), .val (.ref b2), .unset, .unset, .unset, .unset, .unset, .unset, .unset, .unset] [(.int (p3.toInt8.toInt32)), (.int (0 : Int32)), (.ref b2)])) rfl rfl (hb hby at_11)
  have V6 := V2.set (i := 0) rfl W6 (fits_nar_byte _)
  have N6 := Fr.snoc X6 N0 g_b2
  have Z6 : n0 ≤ h6.size := Nat.le_trans Z2 (Keep.of_wr W6).1
  have Kp7 : Keep h0 h6 [] := Kp3.wr W6 (Or.inr sz_b2)
  have ac8 : ∀ t, Steps p.tables e below (T6.setTop (mkF m 12 #[.val (.int p1), .val (.int p2), .val (.int p3), .val (.int p4), .val (.ref b2), .unset, .unset, .unset, .unset, .unset, .unset, .unset, .unset] [])) t → Steps p.tables e below (s₁.setTop (entryFrame m #[(.int p1), (.int p2), (.int p3), (.int p4)] maxLocals)) t := fun t k => ac5 t (st6 t k)
  have ac9 : ∀ t, Steps p.tables e below (T6.setTop (mkF m 18 #[.val (.int p1), .val (.int p2), .val (.int p3), .val (.int p4), .val (.ref b2), .unset, .unset, .unset, .unset, .unset, .unset, .unset, .unset] [(.int ((p3 &&& (255 : Int32)).toUInt32.toUInt16.toUInt32.toInt32))])) t → Steps p.tables e below (s₁.setTop (entryFrame m #[(.int p1), (.int p2), (.int p3), (.int p4)] maxLocals)) t := fun t k => ac8 t (by
      show Steps p.tables e below (T6.setTop (mkF m 12 #[.val (.int p1), .val (.int p2), .val (.int p3), .val (.int p4), .val (.ref b2), .unset, .unset, .unset, .unset, .unset, .unset, .unset, .unset] [])) _
      refine XS.iloadN X6.here hx rfl (hb hby at_12) rfl ?_
      show Steps p.tables e below (T6.setTop (mkF m 13 #[.val (.int p1), .val (.int p2), .val (.int p3), .val (.int p4), .val (.ref b2), .unset, .unset, .unset, .unset, .unset, .unset, .unset, .unset] [(.int p3)])) _
      refine XS.sipush X6.here hx rfl (hb hby at_13) ?_
      show Steps p.tables e below (T6.setTop (mkF m 16 #[.val (.int p1), .val (.int p2), .val (.int p3), .val (.int p4), .val (.ref b2), .unset, .unset, .unset, .unset, .unset, .unset, .unset, .unset] [(.int (255 : Int32)), (.int p3)])) _
      refine XS.iand X6.here hx rfl (hb hby at_16) rfl ?_
      show Steps p.tables e below (T6.setTop (mkF m 17 #[.val (.int p1), .val (.int p2), .val (.int p3), .val (.int p4), .val (.ref b2), .unset, .unset, .unset, .unset, .unset, .unset, .unset, .unset] [(.int (p3 &&& (255 : Int32)))])) _
      refine XS.i2c X6.here hx rfl (hb hby at_17) rfl ?_
      exact k)
  obtain ⟨_, _, ⟨T10, L10, k10, n10⟩, -, X10, ⟨Lc10, hQ10, l10, y10, z10⟩, st10⟩ := Jvm.LawKit.callS X6 hx (y := (⟨"java/lang/String", "valueOf", "(C)Ljava/lang/String;"⟩ : MethodName)) hown (mvT hZ (hw _ (List.mem_of_getElem? (i := 1) rfl))) (mvT hZ (hw _ (List.mem_of_getElem? (i := 2) rfl))) (mvT hZ (hw _ (List.mem_of_getElem? (i := 3) rfl))) (mvT hZ (hw _ (List.mem_of_getElem? (i := 4) rfl))) (by decide) (backOf (W := 0) (rm1 l Z a0 hw [] ((p3 &&& (255 : Int32)).toUInt32.toUInt16.toUInt32.toInt32) cs h6 n0 Z6 (own_Sta_keep Sc Kp7) hcs (own_ch p3)) hZ (hw _ (List.mem_of_getElem? (i := 4) rfl)) (hw _ (List.mem_of_getElem? (i := 3) rfl)) (by decide) (by decide)) (g := (mkF m 18 #[.val (.int p1), .val (.int p2), .val (.int p3), .val (.int p4), .val (.ref b2), .unset, .unset, .unset, .unset, .unset, .unset, .unset, .unset] [(.int ((p3 &&& (255 : Int32)).toUInt32.toUInt16.toUInt32.toInt32))])) rfl (by rw [hml]; rfl) (argsL := [(.int ((p3 &&& (255 : Int32)).toUInt32.toUInt16.toUInt32.toInt32))]) (rest := []) (lenOf pd_0 rfl) rfl (by show 2 * 0 + _ ≤ _; exact Nat.le_of_eq rfl) (hb hby at_18) (fun _ _ => ⟨rfl, e6, (by decide : 1 + 2 ≤ _), (by decide : 20 + 5 ≤ _)⟩)
  dsimp only [Pt.U, Pt.locs, Pt.cells, Pt.slots] at X10 l10 y10 z10 st10 hQ10
  subst l10 y10 z10
  obtain ⟨r10, rfl, N10q, K10q⟩ := hQ10
  have N10 := Fr.app N6 N10q
  have Vf11 := V6.keep K10q nin0
  have Z10 : n0 ≤ T10.heap.size := Nat.le_trans Z6 K10q.1
  have Kp12 : Keep h0 T10.heap [] := Kp7.trans K10q all0
  have ac13 : ∀ t, Steps p.tables e below (T10.setTop (mkF m 21 #[.val (.int p1), .val (.int p2), .val (.int p3), .val (.int p4), .val (.ref b2), .unset, .unset, .unset, .unset, .unset, .unset, .unset, .unset] [(.ref r10)])) t → Steps p.tables e below (s₁.setTop (entryFrame m #[(.int p1), (.int p2), (.int p3), (.int p4)] maxLocals)) t := fun t k => ac9 t (st10 t k)
  have ac14 : ∀ t, Steps p.tables e below (T10.setTop (mkF m 26 #[.val (.int p1), .val (.int p2), .val (.int p3), .val (.int p4), .val (.ref b2), .val (.ref r10), .unset, .unset, .unset, .unset, .unset, .unset, .unset] [(.int (p4 &&& (1 : Int32)))])) t → Steps p.tables e below (s₁.setTop (entryFrame m #[(.int p1), (.int p2), (.int p3), (.int p4)] maxLocals)) t := fun t k => ac13 t (by
      show Steps p.tables e below (T10.setTop (mkF m 21 #[.val (.int p1), .val (.int p2), .val (.int p3), .val (.int p4), .val (.ref b2), .unset, .unset, .unset, .unset, .unset, .unset, .unset, .unset] [(.ref r10)])) _
      refine XS.astore X10.here hx rfl (hb hby at_21) rfl rfl (l' := #[.val (.int p1), .val (.int p2), .val (.int p3), .val (.int p4), .val (.ref b2), .val (.ref r10), .unset, .unset, .unset, .unset, .unset, .unset, .unset]) rfl ?_
      show Steps p.tables e below (T10.setTop (mkF m 23 #[.val (.int p1), .val (.int p2), .val (.int p3), .val (.int p4), .val (.ref b2), .val (.ref r10), .unset, .unset, .unset, .unset, .unset, .unset, .unset] [])) _
      refine XS.iloadN X10.here hx rfl (hb hby at_23) rfl ?_
      show Steps p.tables e below (T10.setTop (mkF m 24 #[.val (.int p1), .val (.int p2), .val (.int p3), .val (.int p4), .val (.ref b2), .val (.ref r10), .unset, .unset, .unset, .unset, .unset, .unset, .unset] [(.int p4)])) _
      refine XS.iconst X10.here hx rfl (hb hby at_24) ?_
      show Steps p.tables e below (T10.setTop (mkF m 25 #[.val (.int p1), .val (.int p2), .val (.int p3), .val (.int p4), .val (.ref b2), .val (.ref r10), .unset, .unset, .unset, .unset, .unset, .unset, .unset] [(.int (1 : Int32)), (.int p4)])) _
      refine XS.iand X10.here hx rfl (hb hby at_25) rfl ?_
      exact k)
  by_cases h1 : (p4 &&& (1 : Int32)) = (0 : Int32)
  ·
    have ac15 : ∀ t, Steps p.tables e below (T10.setTop (mkF m 29 #[.val (.int p1), .val (.int p2), .val (.int p3), .val (.int p4), .val (.ref b2), .val (.ref r10), .unset, .unset, .unset, .unset, .unset, .unset, .unset] [])) t → Steps p.tables e below (s₁.setTop (entryFrame m #[(.int p1), (.int p2), (.int p3), (.int p4)] maxLocals)) t := fun t k => ac14 t (by
        show Steps p.tables e below (T10.setTop (mkF m 26 #[.val (.int p1), .val (.int p2), .val (.int p3), .val (.int p4), .val (.ref b2), .val (.ref r10), .unset, .unset, .unset, .unset, .unset, .unset, .unset] [(.int (p4 &&& (1 : Int32)))])) _
        refine XS.ifNo X10.here hx rfl (hb hby at_26) rfl ((if0 _ _).trans (teq h1).2) ?_
        exact k)
    obtain ⟨T16, h16, X16, e16, E16, A16, D16, -, st16⟩ := newO X10 hx hZ hown (hw _ (List.mem_of_getElem? (i := 29) rfl)) (hw _ (List.mem_of_getElem? (i := 30) rfl)) (hw _ (List.mem_of_getElem? (i := 31) rfl)) rfl (g := (mkF m 29 #[.val (.int p1), .val (.int p2), .val (.int p3), .val (.int p4), .val (.ref b2), .val (.ref r10), .unset, .unset, .unset, .unset, .unset, .unset, .unset] [])) rfl (hb hby at_29) (by decide) (by decide)
    obtain ⟨b16, g16⟩ : ∃ z, z = T10.heap.size := ⟨_, rfl⟩
    rw [← g16] at A16 D16 st16
    have g_b16 : n0 ≤ b16 := Nat.le_trans Z10 (Nat.le_of_eq g16.symm)
    have sz_b16 : h0.size ≤ b16 := Nat.le_trans Kp12.1 (Nat.le_of_eq g16.symm)
    have ne_b2_b16 : b2 ≠ b16 := Nat.ne_of_lt (Nat.lt_of_lt_of_le Vf11.lt (Nat.le_of_eq g16.symm))
    have Vf17 := Vf11.ext E16
    have Z16 : n0 ≤ h16.size := Nat.le_trans Z10 E16.1
    have Kp18 : Keep h0 h16 [] := Kp12.ext E16
    have F_mPcr_b16 : Fld Z h16 b16 "com/example/votal/votal/log/LogRecord" "mPcr" "I" (.int (0 : Int32)) := D16 (Or.inr (hw _ (List.mem_of_getElem? (i := 37) rfl))) (ty := .int) (by decide)
    have F_mTemplateDigest_b16 : Fld Z h16 b16 "com/example/votal/votal/log/LogRecord" "mTemplateDigest" "[B" .null := D16 (Or.inr (hw _ (List.mem_of_getElem? (i := 39) rfl))) (ty := (.array .byte)) (by decide)
    have F_mTemplateName_b16 : Fld Z h16 b16 "com/example/votal/votal/log/LogRecord" "mTemplateName" "Ljava/lang/String;" .null := D16 (Or.inr (hw _ (List.mem_of_getElem? (i := 48) rfl))) (ty := (.object "java/lang/String")) (by decide)
    have F_mTemplate_b16 : Fld Z h16 b16 "com/example/votal/votal/log/LogRecord" "mTemplate" "Lcom/example/votal/votal/log/Template;" .null := D16 (Or.inr (hw _ (List.mem_of_getElem? (i := 50) rfl))) (ty := (.object "com/example/votal/votal/log/Template")) (by decide)
    have F_mName_b16 : Fld Z h16 b16 "com/example/votal/votal/log/LogRecord" "mName" "Ljava/lang/String;" .null := D16 (Or.inr (hw _ (List.mem_of_getElem? (i := 52) rfl))) (ty := (.object "java/lang/String")) (by decide)
    have F_mDigestAlgorithm_b16 : Fld Z h16 b16 "com/example/votal/votal/log/LogRecord" "mDigestAlgorithm" "Lcom/example/votal/votal/log/DigestAlgorithm;" .null := D16 (Or.inr (hw _ (List.mem_of_getElem? (i := 54) rfl))) (ty := (.object "com/example/votal/votal/log/DigestAlgorithm")) (by decide)
    have F_mDigest_b16 : Fld Z h16 b16 "com/example/votal/votal/log/LogRecord" "mDigest" "[B" .null := D16 (Or.inr (hw _ (List.mem_of_getElem? (i := 56) rfl))) (ty := (.array .byte)) (by decide)
    have F_mEventDataOffset_b16 : Fld Z h16 b16 "com/example/votal/votal/log/LogRecord" "mEventDataOffset" "I" (.int (0 : Int32)) := D16 (Or.inr (hw _ (List.mem_of_getElem? (i := 58) rfl))) (ty := .int) (by decide)
    have F_mTemplateData_b16 : Fld Z h16 b16 "com/example/votal/votal/log/LogRecord" "mTemplateData" "[B" .null := D16 (Or.inr (hw _ (List.mem_of_getElem? (i := 60) rfl))) (ty := (.array .byte)) (by decide)
    have F_mViolation_b16 : Fld Z h16 b16 "com/example/votal/votal/log/LogRecord" "mViolation" "Z" (.int (0 : Int32)) := D16 (Or.inr (hw _ (List.mem_of_getElem? (i := 65) rfl))) (ty := .boolean) (by decide)
    have ac19 : ∀ t, Steps p.tables e below (T16.setTop (mkF m 32 #[.val (.int p1), .val (.int p2), .val (.int p3), .val (.int p4), .val (.ref b2), .val (.ref r10), .unset, .unset, .unset, .unset, .unset, .unset, .unset] [(.ref b16)])) t → Steps p.tables e below (s₁.setTop (entryFrame m #[(.int p1), (.int p2), (.int p3), (.int p4)] maxLocals)) t := fun t k => ac15 t (st16 t k)
    have ac20 : ∀ t, Steps p.tables e below (T16.setTop (mkF m 43 #[.val (.int p1), .val (.int p2), .val (.int p3), .val (.int p4), .val (.ref b2), .val (.ref r10), .unset, .unset, .unset, .unset, .unset, .unset, .unset] [.null, (.ref r10), (.ref r10), (.ref b2), (.int ((p4.toUInt32 >>> ((5 : Int32) &&& 31).toUInt32).toInt32)), (.ref b16), (.ref b16)])) t → Steps p.tables e below (s₁.setTop (entryFrame m #[(.int p1), (.int p2), (.int p3), (.int p4)] maxLocals)) t := fun t k => ac19 t (by
        show Steps p.tables e below (T16.setTop (mkF m 32 #[.val (.int p1), .val (.int p2), .val (.int p3), .val (.int p4), .val (.ref b2), .val (.ref r10), .unset, .unset, .unset, .unset, .unset, .unset, .unset] [(.ref b16)])) _
        refine XS.dup X16.here hx rfl (hb hby at_32) rfl rfl ?_
        show Steps p.tables e below (T16.setTop (mkF m 33 #[.val (.int p1), .val (.int p2), .val (.int p3), .val (.int p4), .val (.ref b2), .val (.ref r10), .unset, .unset, .unset, .unset, .unset, .unset, .unset] [(.ref b16), (.ref b16)])) _
        refine XS.iloadN X16.here hx rfl (hb hby at_33) rfl ?_
        show Steps p.tables e below (T16.setTop (mkF m 34 #[.val (.int p1), .val (.int p2), .val (.int p3), .val (.int p4), .val (.ref b2), .val (.ref r10), .unset, .unset, .unset, .unset, .unset, .unset, .unset] [(.int p4), (.ref b16), (.ref b16)])) _
        refine XS.iconst X16.here hx rfl (hb hby at_34) ?_
        show Steps p.tables e below (T16.setTop (mkF m 35 #[.val (.int p1), .val (.int p2), .val (.int p3), .val (.int p4), .val (.ref b2), .val (.ref r10), .unset, .unset, .unset, .unset, .unset, .unset, .unset] [(.int (5 : Int32)), (.int p4), (.ref b16), (.ref b16)])) _
        refine XS.iushr X16.here hx rfl (hb hby at_35) rfl ?_
        show Steps p.tables e below (T16.setTop (mkF m 36 #[.val (.int p1), .val (.int p2), .val (.int p3), .val (.int p4), .val (.ref b2), .val (.ref r10), .unset, .unset, .unset, .unset, .unset, .unset, .unset] [(.int ((p4.toUInt32 >>> ((5 : Int32) &&& 31).toUInt32).toInt32)), (.ref b16), (.ref b16)])) _
        refine XS.aload X16.here hx rfl (hb hby at_36) rfl rfl ?_
        show Steps p.tables e below (T16.setTop (mkF m 38 #[.val (.int p1), .val (.int p2), .val (.int p3), .val (.int p4), .val (.ref b2), .val (.ref r10), .unset, .unset, .unset, .unset, .unset, .unset, .unset] [(.ref b2), (.int ((p4.toUInt32 >>> ((5 : Int32) &&& 31).toUInt32).toInt32)), (.ref b16), (.ref b16)])) _
        refine XS.aload X16.here hx rfl (hb hby at_38) rfl rfl ?_
        show Steps p.tables e below (T16.setTop (mkF m 40 #[.val (.int p1), .val (.int p2), .val (.int p3), .val (.int p4), .val (.ref b2), .val (.ref r10), .unset, .unset, .unset, .unset, .unset, .unset, .unset] [(.ref r10), (.ref b2), (.int ((p4.toUInt32 >>> ((5 : Int32) &&& 31).toUInt32).toInt32)), (.ref b16), (.ref b16)])) _
        refine XS.aload X16.here hx rfl (hb hby at_40) rfl rfl ?_
        show Steps p.tables e below (T16.setTop (mkF m 42 #[.val (.int p1), .val (.int p2), .val (.int p3), .val (.int p4), .val (.ref b2), .val (.ref r10), .unset, .unset, .unset, .unset, .unset, .unset, .unset] [(.ref r10), (.ref r10), (.ref b2), (.int ((p4.toUInt32 >>> ((5 : Int32) &&& 31).toUInt32).toInt32)), (.ref b16), (.ref b16)])) _
        refine XS.aconstNull X16.here hx rfl (hb hby at_42) ?_
        exact k)
    obtain ⟨_, _, ⟨T21, L21, k21, n21⟩, -, X21, ⟨Lc21, hQ21, l21, y21, z21⟩, st21⟩ := X16.specialBack hx (y := (⟨"com/example/votal/votal/log/LogRecord", "<init>", "(I[BLjava/lang/String;Ljava/lang/String;[B)V"⟩ : MethodName)) rfl hown (mvT hZ (hw _ (List.mem_of_getElem? (i := 84) rfl))) (mvT hZ (hw _ (List.mem_of_getElem? (i := 85) rfl))) (mvT hZ (hw _ (List.mem_of_getElem? (i := 86) rfl))) (by decide) (backOf (W := 1) (rm11 l Z a0 hw [] b16 ((p4.toUInt32 >>> ((5 : Int32) &&& 31).toUInt32).toInt32) b2 r10 r10 20 _ h16 n0 Z16 A16 g_b16 Vf17 (own_td _) (by decide) ne_b2_b16 F_mPcr_b16 F_mTemplateDigest_b16 F_mTemplateName_b16 F_mTemplate_b16 F_mName_b16 F_mDigestAlgorithm_b16 F_mDigest_b16 F_mEventDataOffset_b16 F_mTemplateData_b16 F_mViolation_b16) hZ (hw _ (List.mem_of_getElem? (i := 86) rfl)) (hw _ (List.mem_of_getElem? (i := 31) rfl)) (by decide) (by decide)) (g := (mkF m 43 #[.val (.int p1), .val (.int p2), .val (.int p3), .val (.int p4), .val (.ref b2), .val (.ref r10), .unset, .unset, .unset, .unset, .unset, .unset, .unset] [.null, (.ref r10), (.ref r10), (.ref b2), (.int ((p4.toUInt32 >>> ((5 : Int32) &&& 31).toUInt32).toInt32)), (.ref b16), (.ref b16)])) rfl (by rw [hml]; rfl) (Steps.refl _) (a := b16) (argsL := [(.int ((p4.toUInt32 >>> ((5 : Int32) &&& 31).toUInt32).toInt32)), (.ref b2), (.ref r10), (.ref r10), .null]) (rest := [(.ref b16)]) (lenOf pd_11 rfl) rfl (by show 2 * 0 + _ ≤ _; exact Nat.le_of_eq rfl) (hb hby at_43) (fun _ _ => ⟨rfl, e16, (by decide : 4 + 0 ≤ _), (by decide : 35 + 0 ≤ _)⟩)
    dsimp only [Pt.U, Pt.locs, Pt.cells, Pt.slots] at X21 l21 y21 z21 st21 hQ21
    subst l21 y21 z21
    obtain ⟨rfl, N21q, K21q, Ex21, Fl21⟩ := hQ21
    have N21 := Fr.app N10 N21q
    have Vf22 := Vf17.keep K21q (ninS ne_b2_b16 nin0)
    have Ef23 := A16.keep K21q
    have Z21 : n0 ≤ T21.heap.size := Nat.le_trans Z16 K21q.1
    have Kp24 : Keep h0 T21.heap [] := Kp18.trans K21q (allS (Or.inr sz_b16) all0)
    have ac25 : ∀ t, Steps p.tables e below (T21.setTop (mkF m 46 #[.val (.int p1), .val (.int p2), .val (.int p3), .val (.int p4), .val (.ref b2), .val (.ref r10), .unset, .unset, .unset, .unset, .unset, .unset, .unset] [(.ref b16)])) t → Steps p.tables e below (s₁.setTop (entryFrame m #[(.int p1), (.int p2), (.int p3), (.int p4)] maxLocals)) t := fun t k => ac20 t (st21.trans k)
    have ac26 : ∀ t, Steps p.tables e below (T21.setTop (mkF m 50 #[.val (.int p1), .val (.int p2), .val (.int p3), .val (.int p4), .val (.ref b2), .val (.ref r10), .val (.ref b16), .unset, .unset, .unset, .unset, .unset, .unset] [(.ref b16)])) t → Steps p.tables e below (s₁.setTop (entryFrame m #[(.int p1), (.int p2), (.int p3), (.int p4)] maxLocals)) t := fun t k => ac25 t (by
        show Steps p.tables e below (T21.setTop (mkF m 46 #[.val (.int p1), .val (.int p2), .val (.int p3), .val (.int p4), .val (.ref b2), .val (.ref r10), .unset, .unset, .unset, .unset, .unset, .unset, .unset] [(.ref b16)])) _
        refine XS.astore X21.here hx rfl (hb hby at_46) rfl rfl (l' := #[.val (.int p1), .val (.int p2), .val (.int p3), .val (.int p4), .val (.ref b2), .val (.ref r10), .val (.ref b16), .unset, .unset, .unset, .unset, .unset, .unset]) rfl ?_
        show Steps p.tables e below (T21.setTop (mkF m 48 #[.val (.int p1), .val (.int p2), .val (.int p3), .val (.int p4), .val (.ref b2), .val (.ref r10), .val (.ref b16), .unset, .unset, .unset, .unset, .unset, .unset] [])) _
        refine XS.aload X21.here hx rfl (hb hby at_48) rfl rfl ?_
        exact k)
    obtain ⟨cq27, kq27, q27a, q27b, q27c⟩ := isOf hZ rfl Ef23
    obtain ⟨_, _, ⟨T27, L27, k27, n27⟩, -, X27, ⟨Lc27, hQ27, l27, y27, z27⟩, st27⟩ := X21.virtualBack hx (y := (⟨"com/example/votal/votal/log/LogRecord", "getDigest", "()[B"⟩ : MethodName)) (z := (⟨"com/example/votal/votal/log/LogRecord", "getDigest", "()[B"⟩ : MethodName)) hown (mvT hZ (hw _ (List.mem_of_getElem? (i := 66) rfl))) (mvT hZ (hw _ (List.mem_of_getElem? (i := 67) rfl))) (notFace_of_selects (args := #[]) (mvT hZ (hw _ (List.mem_of_getElem? (i := 69) rfl)))) (mvT hZ (hw _ (List.mem_of_getElem? (i := 69) rfl))) (mvT hZ (hw _ (List.mem_of_getElem? (i := 68) rfl))) (by decide) (backOf (W := 0) (rm9n l Z a0 hw [] b16  T21.heap n0 Z21 Fl21) hZ (hw _ (List.mem_of_getElem? (i := 70) rfl)) (hw _ (List.mem_of_getElem? (i := 31) rfl)) (by decide) (by decide)) q27a q27c (g := (mkF m 50 #[.val (.int p1), .val (.int p2), .val (.int p3), .val (.int p4), .val (.ref b2), .val (.ref r10), .val (.ref b16), .unset, .unset, .unset, .unset, .unset, .unset] [(.ref b16)])) rfl (by rw [hml]; rfl) (Steps.refl _) (argsL := []) (rest := []) (lenOf pd_8 rfl) rfl (by show 2 * 0 + _ ≤ _; exact Nat.le_of_eq rfl) (hb hby at_50) (fun _ _ => ⟨rfl, rfl, (by decide : 4 + 0 ≤ _), (by decide : 35 + 0 ≤ _)⟩)
    dsimp only [Pt.U, Pt.locs, Pt.cells, Pt.slots] at X27 l27 y27 z27 st27 hQ27
    subst l27 y27 z27
    obtain ⟨rfl, N27q, Qe27⟩ := hQ27
    have N27 := Fr.app N21 N27q
    have ac28 : ∀ t, Steps p.tables e below (T27.setTop (mkF m 53 #[.val (.int p1), .val (.int p2), .val (.int p3), .val (.int p4), .val (.ref b2), .val (.ref r10), .val (.ref b16), .unset, .unset, .unset, .unset, .unset, .unset] [.null])) t → Steps p.tables e below (s₁.setTop (entryFrame m #[(.int p1), (.int p2), (.int p3), (.int p4)] maxLocals)) t := fun t k => ac26 t (st27.trans k)
    have ac29 : ∀ t, Steps p.tables e below (T27.setTop (mkF m 61 #[.val (.int p1), .val (.int p2), .val (.int p3), .val (.int p4), .val (.ref b2), .val (.ref r10), .val (.ref b16), .unset, .unset, .unset, .unset, .unset, .unset] [(.int (1 : Int32))])) t → Steps p.tables e below (s₁.setTop (entryFrame m #[(.int p1), (.int p2), (.int p3), (.int p4)] maxLocals)) t := fun t k => ac28 t (by
        show Steps p.tables e below (T27.setTop (mkF m 53 #[.val (.int p1), .val (.int p2), .val (.int p3), .val (.int p4), .val (.ref b2), .val (.ref r10), .val (.ref b16), .unset, .unset, .unset, .unset, .unset, .unset] [.null])) _
        refine XS.ifnonnullNo X27.here hx rfl (hb hby at_53) rfl ?_
        show Steps p.tables e below (T27.setTop (mkF m 56 #[.val (.int p1), .val (.int p2), .val (.int p3), .val (.int p4), .val (.ref b2), .val (.ref r10), .val (.ref b16), .unset, .unset, .unset, .unset, .unset, .unset] [])) _
        refine XS.iconst X27.here hx rfl (hb hby at_56) ?_
        show Steps p.tables e below (T27.setTop (mkF m 57 #[.val (.int p1), .val (.int p2), .val (.int p3), .val (.int p4), .val (.ref b2), .val (.ref r10), .val (.ref b16), .unset, .unset, .unset, .unset, .unset, .unset] [(.int (1 : Int32))])) _
        refine XS.goto X27.here hx rfl (pc0 := 57) (pc' := 61) rfl (hb hby at_57) (by decide) (by decide) ?_
        exact k)
    obtain ⟨fs, hr, hrun, hended, hW, hsame⟩ := X27.leave (v := some (.int (1 : Int32))) (fun h => by rw [Bd.returns] at h; cases h) (BodyLoose.notSynchronized Bd)
    refine ⟨_, _, ac29 _ ?_, hrun, hended, _, _, rfl, ?_, ⟨_, rfl⟩, hW, hsame.mono (by decide) (by decide)⟩
    · show Steps p.tables e below (T27.setTop (mkF m 61 #[.val (.int p1), .val (.int p2), .val (.int p3), .val (.int p4), .val (.ref b2), .val (.ref r10), .val (.ref b16), .unset, .unset, .unset, .unset, .unset, .unset] [(.int (1 : Int32))])) _
      exact retN X27 hx (t := .boolean) Bd.returns (by simp) (hb hby at_61) hr
    · show Q0 Z p1 p2 p3 p4 cs tN tB nN nB h0 n0 _ T27.heap _
      rw [Qe27]
      exact ⟨rfl, N27⟩
  ·
    have ac30 : ∀ t, Steps p.tables e below (T10.setTop (mkF m 69 #[.val (.int p1), .val (.int p2), .val (.int p3), .val (.int p4), .val (.ref b2), .val (.ref r10), .val (.int (((p4.toUInt32 >>> ((1 : Int32) &&& 31).toUInt32).toInt32) &&& (3 : Int32))), .unset, .unset, .unset, .unset, .unset, .unset] [])) t → Steps p.tables e below (s₁.setTop (entryFrame m #[(.int p1), (.int p2), (.int p3), (.int p4)] maxLocals)) t := fun t k => ac14 t (by
        show Steps p.tables e below (T10.setTop (mkF m 26 #[.val (.int p1), .val (.int p2), .val (.int p3), .val (.int p4), .val (.ref b2), .val (.ref r10), .unset, .unset, .unset, .unset, .unset, .unset, .unset] [(.int (p4 &&& (1 : Int32)))])) _
        refine XS.ifYes X10.here hx rfl (pc0 := 26) (pc' := 62) rfl (hb hby at_26) rfl ((if0 _ _).trans (feq h1).2) (by decide) (by decide) ?_
        show Steps p.tables e below (T10.setTop (mkF m 62 #[.val (.int p1), .val (.int p2), .val (.int p3), .val (.int p4), .val (.ref b2), .val (.ref r10), .unset, .unset, .unset, .unset, .unset, .unset, .unset] [])) _
        refine XS.iloadN X10.here hx rfl (hb hby at_62) rfl ?_
        show Steps p.tables e below (T10.setTop (mkF m 63 #[.val (.int p1), .val (.int p2), .val (.int p3), .val (.int p4), .val (.ref b2), .val (.ref r10), .unset, .unset, .unset, .unset, .unset, .unset, .unset] [(.int p4)])) _
        refine XS.iconst X10.here hx rfl (hb hby at_63) ?_
        show Steps p.tables e below (T10.setTop (mkF m 64 #[.val (.int p1), .val (.int p2), .val (.int p3), .val (.int p4), .val (.ref b2), .val (.ref r10), .unset, .unset, .unset, .unset, .unset, .unset, .unset] [(.int (1 : Int32)), (.int p4)])) _
        refine XS.iushr X10.here hx rfl (hb hby at_64) rfl ?_
        show Steps p.tables e below (T10.setTop (mkF m 65 #[.val (.int p1), .val (.int p2), .val (.int p3), .val (.int p4), .val (.ref b2), .val (.ref r10), .unset, .unset, .unset, .unset, .unset, .unset, .unset] [(.int ((p4.toUInt32 >>> ((1 : Int32) &&& 31).toUInt32).toInt32))])) _
        refine XS.iconst X10.here hx rfl (hb hby at_65) ?_
        show Steps p.tables e below (T10.setTop (mkF m 66 #[.val (.int p1), .val (.int p2), .val (.int p3), .val (.int p4), .val (.ref b2), .val (.ref r10), .unset, .unset, .unset, .unset, .unset, .unset, .unset] [(.int (3 : Int32)), (.int ((p4.toUInt32 >>> ((1 : Int32) &&& 31).toUInt32).toInt32))])) _
        refine XS.iand X10.here hx rfl (hb hby at_66) rfl ?_
        show Steps p.tables e below (T10.setTop (mkF m 67 #[.val (.int p1), .val (.int p2), .val (.int p3), .val (.int p4), .val (.ref b2), .val (.ref r10), .unset, .unset, .unset, .unset, .unset, .unset, .unset] [(.int (((p4.toUInt32 >>> ((1 : Int32) &&& 31).toUInt32).toInt32) &&& (3 : Int32)))])) _
        refine XS.istore X10.here hx rfl (hb hby at_67) rfl (l' := #[.val (.int p1), .val (.int p2), .val (.int p3), .val (.int p4), .val (.ref b2), .val (.ref r10), .val (.int (((p4.toUInt32 >>> ((1 : Int32) &&& 31).toUInt32).toInt32) &&& (3 : Int32))), .unset, .unset, .unset, .unset, .unset, .unset]) rfl ?_
        exact k)
    rcases own_len4 p4 with hl | hl | hl | hl
    ·
      rw [hl] at ac30
      have ac31 : ∀ t, Steps p.tables e below (T10.setTop (mkF m 71 #[.val (.int p1), .val (.int p2), .val (.int p3), .val (.int p4), .val (.ref b2), .val (.ref r10), .val (.int (0 : Int32)), .unset, .unset, .unset, .unset, .unset, .unset] [(.int (0 : Int32))])) t → Steps p.tables e below (s₁.setTop (entryFrame m #[(.int p1), (.int p2), (.int p3), (.int p4)] maxLocals)) t := fun t k => ac30 t (by
          show Steps p.tables e below (T10.setTop (mkF m 69 #[.val (.int p1), .val (.int p2), .val (.int p3), .val (.int p4), .val (.ref b2), .val (.ref r10), .val (.int (0 : Int32)), .unset, .unset, .unset, .unset, .unset, .unset] [])) _
          refine XS.iload X10.here hx rfl (hb hby at_69) rfl ?_
          exact k)
      obtain ⟨T32, h32, k32, X32, e32, E32, A32, Ea32, st32⟩ := newPE X10 hx hZ (hw _ (List.mem_of_getElem? (i := 0) rfl)) rfl (g := (mkF m 71 #[.val (.int p1), .val (.int p2), .val (.int p3), .val (.int p4), .val (.ref b2), .val (.ref r10), .val (.int (0 : Int32)), .unset, .unset, .unset, .unset, .unset, .unset] [(.int (0 : Int32))])) rfl (hb hby at_71) rfl (by decide) (cap := 0) (by decide) (by decide) (by decide) (by decide) (ad := "[B") (by decide)
      obtain ⟨b32, g32⟩ : ∃ z, z = T10.heap.size := ⟨_, rfl⟩
      rw [← g32] at A32 st32 Ea32
      have g_b32 : n0 ≤ b32 := Nat.le_trans Z10 (Nat.le_of_eq g32.symm)
      have sz_b32 : h0.size ≤ b32 := Nat.le_trans Kp12.1 (Nat.le_of_eq g32.symm)
      have ne_b2_b32 : b2 ≠ b32 := Nat.ne_of_lt (Nat.lt_of_lt_of_le Vf11.lt (Nat.le_of_eq g32.symm))
      have Vf33 := Vf11.ext E32
      have Z32 : n0 ≤ h32.size := Nat.le_trans Z10 E32.1
      have Kp34 : Keep h0 h32 [] := Kp12.ext E32
      have V32 : own_Ar Z h32 b32 .byte 0 (fun _ => (.int (0 : Int32))) := own_Ar.new A32 rfl
      have ac35 : ∀ t, Steps p.tables e below (T32.setTop (mkF m 73 #[.val (.int p1), .val (.int p2), .val (.int p3), .val (.int p4), .val (.ref b2), .val (.ref r10), .val (.int (0 : Int32)), .unset, .unset, .unset, .unset, .unset, .unset] [(.ref b32)])) t → Steps p.tables e below (s₁.setTop (entryFrame m #[(.int p1), (.int p2), (.int p3), (.int p4)] maxLocals)) t := fun t k => ac31 t (st32 t k)
      have V36 : own_Ar Z h32 b32 .byte 0 (fun k => .int 0) := V32.eq (fun k hk => absurd hk (Nat.not_lt_zero k))
      have ac37 : ∀ t, Steps p.tables e below (T32.setTop (mkF m 117 #[.val (.int p1), .val (.int p2), .val (.int p3), .val (.int p4), .val (.ref b2), .val (.ref r10), .val (.int (0 : Int32)), .val (.ref b32), .unset, .unset, .unset, .unset, .unset] [(.int (p4 &&& (8 : Int32)))])) t → Steps p.tables e below (s₁.setTop (entryFrame m #[(.int p1), (.int p2), (.int p3), (.int p4)] maxLocals)) t := fun t k => ac35 t (by
          show Steps p.tables e below (T32.setTop (mkF m 73 #[.val (.int p1), .val (.int p2), .val (.int p3), .val (.int p4), .val (.ref b2), .val (.ref r10), .val (.int (0 : Int32)), .unset, .unset, .unset, .unset, .unset, .unset] [(.ref b32)])) _
          refine XS.astore X32.here hx rfl (hb hby at_73) rfl rfl (l' := #[.val (.int p1), .val (.int p2), .val (.int p3), .val (.int p4), .val (.ref b2), .val (.ref r10), .val (.int (0 : Int32)), .val (.ref b32), .unset, .unset, .unset, .unset, .unset]) rfl ?_
          show Steps p.tables e below (T32.setTop (mkF m 75 #[.val (.int p1), .val (.int p2), .val (.int p3), .val (.int p4), .val (.ref b2), .val (.ref r10), .val (.int (0 : Int32)), .val (.ref b32), .unset, .unset, .unset, .unset, .unset] [])) _
          refine XS.iload X32.here hx rfl (hb hby at_75) rfl ?_
          show Steps p.tables e below (T32.setTop (mkF m 77 #[.val (.int p1), .val (.int p2), .val (.int p3), .val (.int p4), .val (.ref b2), .val (.ref r10), .val (.int (0 : Int32)), .val (.ref b32), .unset, .unset, .unset, .unset, .unset] [(.int (0 : Int32))])) _
          refine XS.ifYes X32.here hx rfl (pc0 := 77) (pc' := 86) rfl (hb hby at_77) rfl ((if0 _ _).trans (flt (by decide)).2.2.2) (by decide) (by decide) ?_
          show Steps p.tables e below (T32.setTop (mkF m 86 #[.val (.int p1), .val (.int p2), .val (.int p3), .val (.int p4), .val (.ref b2), .val (.ref r10), .val (.int (0 : Int32)), .val (.ref b32), .unset, .unset, .unset, .unset, .unset] [])) _
          refine XS.iload X32.here hx rfl (hb hby at_86) rfl ?_
          show Steps p.tables e below (T32.setTop (mkF m 88 #[.val (.int p1), .val (.int p2), .val (.int p3), .val (.int p4), .val (.ref b2), .val (.ref r10), .val (.int (0 : Int32)), .val (.ref b32), .unset, .unset, .unset, .unset, .unset] [(.int (0 : Int32))])) _
          refine XS.iconst X32.here hx rfl (hb hby at_88) ?_
          show Steps p.tables e below (T32.setTop (mkF m 89 #[.val (.int p1), .val (.int p2), .val (.int p3), .val (.int p4), .val (.ref b2), .val (.ref r10), .val (.int (0 : Int32)), .val (.ref b32), .unset, .unset, .unset, .unset, .unset] [(.int (1 : Int32)), (.int (0 : Int32))])) _
          refine XS.icmpYes X32.here hx rfl (pc0 := 89) (pc' := 101) rfl (hb hby at_89) rfl (flt (by decide)).2.2.2 (by decide) (by decide) ?_
          show Steps p.tables e below (T32.setTop (mkF m 101 #[.val (.int p1), .val (.int p2), .val (.int p3), .val (.int p4), .val (.ref b2), .val (.ref r10), .val (.int (0 : Int32)), .val (.ref b32), .unset, .unset, .unset, .unset, .unset] [])) _
          refine XS.iload X32.here hx rfl (hb hby at_101) rfl ?_
          show Steps p.tables e below (T32.setTop (mkF m 103 #[.val (.int p1), .val (.int p2), .val (.int p3), .val (.int p4), .val (.ref b2), .val (.ref r10), .val (.int (0 : Int32)), .val (.ref b32), .unset, .unset, .unset, .unset, .unset] [(.int (0 : Int32))])) _
          refine XS.iconst X32.here hx rfl (hb hby at_103) ?_
          show Steps p.tables e below (T32.setTop (mkF m 104 #[.val (.int p1), .val (.int p2), .val (.int p3), .val (.int p4), .val (.ref b2), .val (.ref r10), .val (.int (0 : Int32)), .val (.ref b32), .unset, .unset, .unset, .unset, .unset] [(.int (2 : Int32)), (.int (0 : Int32))])) _
          refine XS.icmpYes X32.here hx rfl (pc0 := 104) (pc' := 113) rfl (hb hby at_104) rfl (flt (by decide)).2.2.2 (by decide) (by decide) ?_
          show Steps p.tables e below (T32.setTop (mkF m 113 #[.val (.int p1), .val (.int p2), .val (.int p3), .val (.int p4), .val (.ref b2), .val (.ref r10), .val (.int (0 : Int32)), .val (.ref b32), .unset, .unset, .unset, .unset, .unset] [])) _
          refine XS.iloadN X32.here hx rfl (hb hby at_113) rfl ?_
          show Steps p.tables e below (T32.setTop (mkF m 114 #[.val (.int p1), .val (.int p2), .val (.int p3), .val (.int p4), .val (.ref b2), .val (.ref r10), .val (.int (0 : Int32)), .val (.ref b32), .unset, .unset, .unset, .unset, .unset] [(.int p4)])) _
          refine XS.bipush X32.here hx rfl (hb hby at_114) ?_
          show Steps p.tables e below (T32.setTop (mkF m 116 #[.val (.int p1), .val (.int p2), .val (.int p3), .val (.int p4), .val (.ref b2), .val (.ref r10), .val (.int (0 : Int32)), .val (.ref b32), .unset, .unset, .unset, .unset, .unset] [(.int (8 : Int32)), (.int p4)])) _
          refine XS.iand X32.here hx rfl (hb hby at_116) rfl ?_
          exact k)
      obtain ⟨T38, tA, nA, X38, e38, EA, FA, ltA, ac38_⟩ : ∃ (T' : State) (tA : Addr) (nA : Addr), own_StT X32 T' ∧ T'.heap = h32 ∧ Exa Z h32 tA "com/example/votal/votal/log/Template" ∧ Fld Z h32 tA "com/example/votal/votal/log/Template" "mName" "Ljava/lang/String;" (.ref nA) ∧ tA < h0.size ∧ ∀ t, Steps p.tables e below (T'.setTop (mkF m 129 #[.val (.int p1), .val (.int p2), .val (.int p3), .val (.int p4), .val (.ref b2), .val (.ref r10), .val (.int (0 : Int32)), .val (.ref b32), .unset, .unset, .unset, .unset, .unset] [(.ref tA)])) t → Steps p.tables e below (s₁.setTop (entryFrame m #[(.int p1), (.int p2), (.int p3), (.int p4)] maxLocals)) t := by
        by_cases hm : (p4 &&& (8 : Int32)) = (0 : Int32)
        ·
          have ac39 : ∀ t, Steps p.tables e below (T32.setTop (mkF m 126 #[.val (.int p1), .val (.int p2), .val (.int p3), .val (.int p4), .val (.ref b2), .val (.ref r10), .val (.int (0 : Int32)), .val (.ref b32), .unset, .unset, .unset, .unset, .unset] [])) t → Steps p.tables e below (s₁.setTop (entryFrame m #[(.int p1), (.int p2), (.int p3), (.int p4)] maxLocals)) t := fun t k => ac37 t (by
              show Steps p.tables e below (T32.setTop (mkF m 117 #[.val (.int p1), .val (.int p2), .val (.int p3), .val (.int p4), .val (.ref b2), .val (.ref r10), .val (.int (0 : Int32)), .val (.ref b32), .unset, .unset, .unset, .unset, .unset] [(.int (p4 &&& (8 : Int32)))])) _
              refine XS.ifYes X32.here hx rfl (pc0 := 117) (pc' := 126) rfl (hb hby at_117) rfl ((if0 _ _).trans (teq hm).1) (by decide) (by decide) ?_
              exact k)
          obtain ⟨T40, X40, e40, st40⟩ := getS2 X32 hx hZ hown (host := "") (Or.inl (hw _ (List.mem_of_getElem? (i := 26) rfl))) Via.refl e32 (own_Sta_keep SN Kp34) (g := (mkF m 126 #[.val (.int p1), .val (.int p2), .val (.int p3), .val (.int p4), .val (.ref b2), .val (.ref r10), .val (.int (0 : Int32)), .val (.ref b32), .unset, .unset, .unset, .unset, .unset] [])) rfl (hb hby at_126)
          have ac41 : ∀ t, Steps p.tables e below (T40.setTop (mkF m 129 #[.val (.int p1), .val (.int p2), .val (.int p3), .val (.int p4), .val (.ref b2), .val (.ref r10), .val (.int (0 : Int32)), .val (.ref b32), .unset, .unset, .unset, .unset, .unset] [(.ref tN)])) t → Steps p.tables e below (s₁.setTop (entryFrame m #[(.int p1), (.int p2), (.int p3), (.int p4)] maxLocals)) t := fun t k => ac39 t (st40 t k)
          exact ⟨T40, tN, nN, X40, e40, (EN.keep Kp34), (FN.keep Kp34 nin0), EN.lt, ac41⟩
        ·
          have ac42 : ∀ t, Steps p.tables e below (T32.setTop (mkF m 120 #[.val (.int p1), .val (.int p2), .val (.int p3), .val (.int p4), .val (.ref b2), .val (.ref r10), .val (.int (0 : Int32)), .val (.ref b32), .unset, .unset, .unset, .unset, .unset] [])) t → Steps p.tables e below (s₁.setTop (entryFrame m #[(.int p1), (.int p2), (.int p3), (.int p4)] maxLocals)) t := fun t k => ac37 t (by
              show Steps p.tables e below (T32.setTop (mkF m 117 #[.val (.int p1), .val (.int p2), .val (.int p3), .val (.int p4), .val (.ref b2), .val (.ref r10), .val (.int (0 : Int32)), .val (.ref b32), .unset, .unset, .unset, .unset, .unset] [(.int (p4 &&& (8 : Int32)))])) _
              refine XS.ifNo X32.here hx rfl (hb hby at_117) rfl ((if0 _ _).trans (feq hm).1) ?_
              exact k)
          obtain ⟨T43, X43, e43, st43⟩ := getS2 X32 hx hZ hown (host := "") (Or.inl (hw _ (List.mem_of_getElem? (i := 87) rfl))) Via.refl e32 (own_Sta_keep SB Kp34) (g := (mkF m 120 #[.val (.int p1), .val (.int p2), .val (.int p3), .val (.int p4), .val (.ref b2), .val (.ref r10), .val (.int (0 : Int32)), .val (.ref b32), .unset, .unset, .unset, .unset, .unset] [])) rfl (hb hby at_120)
          have ac44 : ∀ t, Steps p.tables e below (T43.setTop (mkF m 123 #[.val (.int p1), .val (.int p2), .val (.int p3), .val (.int p4), .val (.ref b2), .val (.ref r10), .val (.int (0 : Int32)), .val (.ref b32), .unset, .unset, .unset, .unset, .unset] [(.ref tB)])) t → Steps p.tables e below (s₁.setTop (entryFrame m #[(.int p1), (.int p2), (.int p3), (.int p4)] maxLocals)) t := fun t k => ac42 t (st43 t k)
          have ac45 : ∀ t, Steps p.tables e below (T43.setTop (mkF m 129 #[.val (.int p1), .val (.int p2), .val (.int p3), .val (.int p4), .val (.ref b2), .val (.ref r10), .val (.int (0 : Int32)), .val (.ref b32), .unset, .unset, .unset, .unset, .unset] [(.ref tB)])) t → Steps p.tables e below (s₁.setTop (entryFrame m #[(.int p1), (.int p2), (.int p3), (.int p4)] maxLocals)) t := fun t k => ac44 t (by
              show Steps p.tables e below (T43.setTop (mkF m 123 #[.val (.int p1), .val (.int p2), .val (.int p3), .val (.int p4), .val (.ref b2), .val (.ref r10), .val (.int (0 : Int32)), .val (.ref b32), .unset, .unset, .unset, .unset, .unset] [(.ref tB)])) _
              refine XS.goto X43.here hx rfl (pc0 := 123) (pc' := 129) rfl (hb hby at_123) (by decide) (by decide) ?_
              exact k)
          exact ⟨T43, tB, nB, X43, e43, (EB.keep Kp34), (FB.keep Kp34 nin0), EB.lt, ac45⟩
      have ac46 : ∀ t, Steps p.tables e below (T38.setTop (mkF m 135 #[.val (.int p1), .val (.int p2), .val (.int p3), .val (.int p4), .val (.ref b2), .val (.ref r10), .val (.int (0 : Int32)), .val (.ref b32), .val (.ref tA), .unset, .unset, .unset, .unset] [(.int (p4 &&& (16 : Int32)))])) t → Steps p.tables e below (s₁.setTop (entryFrame m #[(.int p1), (.int p2), (.int p3), (.int p4)] maxLocals)) t := fun t k => ac38_ t (by
          show Steps p.tables e below (T38.setTop (mkF m 129 #[.val (.int p1), .val (.int p2), .val (.int p3), .val (.int p4), .val (.ref b2), .val (.ref r10), .val (.int (0 : Int32)), .val (.ref b32), .unset, .unset, .unset, .unset, .unset] [(.ref tA)])) _
          refine XS.astore X38.here hx rfl (hb hby at_129) rfl rfl (l' := #[.val (.int p1), .val (.int p2), .val (.int p3), .val (.int p4), .val (.ref b2), .val (.ref r10), .val (.int (0 : Int32)), .val (.ref b32), .val (.ref tA), .unset, .unset, .unset, .unset]) rfl ?_
          show Steps p.tables e below (T38.setTop (mkF m 131 #[.val (.int p1), .val (.int p2), .val (.int p3), .val (.int p4), .val (.ref b2), .val (.ref r10), .val (.int (0 : Int32)), .val (.ref b32), .val (.ref tA), .unset, .unset, .unset, .unset] [])) _
          refine XS.iloadN X38.here hx rfl (hb hby at_131) rfl ?_
          show Steps p.tables e below (T38.setTop (mkF m 132 #[.val (.int p1), .val (.int p2), .val (.int p3), .val (.int p4), .val (.ref b2), .val (.ref r10), .val (.int (0 : Int32)), .val (.ref b32), .val (.ref tA), .unset, .unset, .unset, .unset] [(.int p4)])) _
          refine XS.bipush X38.here hx rfl (hb hby at_132) ?_
          show Steps p.tables e below (T38.setTop (mkF m 134 #[.val (.int p1), .val (.int p2), .val (.int p3), .val (.int p4), .val (.ref b2), .val (.ref r10), .val (.int (0 : Int32)), .val (.ref b32), .val (.ref tA), .unset, .unset, .unset, .unset] [(.int (16 : Int32)), (.int p4)])) _
          refine XS.iand X38.here hx rfl (hb hby at_134) rfl ?_
          exact k)
      have ac47 : ∀ t, Steps p.tables e below (T38.setTop (mkF m 143 #[.val (.int p1), .val (.int p2), .val (.int p3), .val (.int p4), .val (.ref b2), .val (.ref r10), .val (.int (0 : Int32)), .val (.ref b32), .val (.ref tA), .unset, .unset, .unset, .unset] [(.int (own_off (p4 &&& (16 : Int32))))])) t → Steps p.tables e below (s₁.setTop (entryFrame m #[(.int p1), (.int p2), (.int p3), (.int p4)] maxLocals)) t := fun t k => ac46 t (by
          by_cases hm : (p4 &&& (16 : Int32)) = (0 : Int32)
          ·
            show Steps p.tables e below (T38.setTop (mkF m 135 #[.val (.int p1), .val (.int p2), .val (.int p3), .val (.int p4), .val (.ref b2), .val (.ref r10), .val (.int (0 : Int32)), .val (.ref b32), .val (.ref tA), .unset, .unset, .unset, .unset] [(.int (p4 &&& (16 : Int32)))])) _
            refine XS.ifYes X38.here hx rfl (pc0 := 135) (pc' := 142) rfl (hb hby at_135) rfl ((if0 _ _).trans (teq hm).1) (by decide) (by decide) ?_
            show Steps p.tables e below (T38.setTop (mkF m 142 #[.val (.int p1), .val (.int p2), .val (.int p3), .val (.int p4), .val (.ref b2), .val (.ref r10), .val (.int (0 : Int32)), .val (.ref b32), .val (.ref tA), .unset, .unset, .unset, .unset] [])) _
            refine XS.iconst X38.here hx rfl (hb hby at_142) ?_
            rw [own_off_0 hm] at k; exact k
          ·
            show Steps p.tables e below (T38.setTop (mkF m 135 #[.val (.int p1), .val (.int p2), .val (.int p3), .val (.int p4), .val (.ref b2), .val (.ref r10), .val (.int (0 : Int32)), .val (.ref b32), .val (.ref tA), .unset, .unset, .unset, .unset] [(.int (p4 &&& (16 : Int32)))])) _
            refine XS.ifNo X38.here hx rfl (hb hby at_135) rfl ((if0 _ _).trans (feq hm).1) ?_
            show Steps p.tables e below (T38.setTop (mkF m 138 #[.val (.int p1), .val (.int p2), .val (.int p3), .val (.int p4), .val (.ref b2), .val (.ref r10), .val (.int (0 : Int32)), .val (.ref b32), .val (.ref tA), .unset, .unset, .unset, .unset] [])) _
            refine XS.iconst X38.here hx rfl (hb hby at_138) ?_
            show Steps p.tables e below (T38.setTop (mkF m 139 #[.val (.int p1), .val (.int p2), .val (.int p3), .val (.int p4), .val (.ref b2), .val (.ref r10), .val (.int (0 : Int32)), .val (.ref b32), .val (.ref tA), .unset, .unset, .unset, .unset] [(.int (-1 : Int32))])) _
            refine XS.goto X38.here hx rfl (pc0 := 139) (pc' := 143) rfl (hb hby at_139) (by decide) (by decide) ?_
            rw [own_off_1 hm] at k; exact k)
      have ac48 : ∀ t, Steps p.tables e below (T38.setTop (mkF m 145 #[.val (.int p1), .val (.int p2), .val (.int p3), .val (.int p4), .val (.ref b2), .val (.ref r10), .val (.int (0 : Int32)), .val (.ref b32), .val (.ref tA), .val (.int (own_off (p4 &&& (16 : Int32)))), .unset, .unset, .unset] [])) t → Steps p.tables e below (s₁.setTop (entryFrame m #[(.int p1), (.int p2), (.int p3), (.int p4)] maxLocals)) t := fun t k => ac47 t (by
          show Steps p.tables e below (T38.setTop (mkF m 143 #[.val (.int p1), .val (.int p2), .val (.int p3), .val (.int p4), .val (.ref b2), .val (.ref r10), .val (.int (0 : Int32)), .val (.ref b32), .val (.ref tA), .unset, .unset, .unset, .unset] [(.int (own_off (p4 &&& (16 : Int32))))])) _
          refine XS.istore X38.here hx rfl (hb hby at_143) rfl (l' := #[.val (.int p1), .val (.int p2), .val (.int p3), .val (.int p4), .val (.ref b2), .val (.ref r10), .val (.int (0 : Int32)), .val (.ref b32), .val (.ref tA), .val (.int (own_off (p4 &&& (16 : Int32)))), .unset, .unset, .unset]) rfl ?_
          exact k)
      obtain ⟨T49, h49, X49, e49, E49, A49, D49, -, st49⟩ := newO X38 hx hZ hown (hw _ (List.mem_of_getElem? (i := 29) rfl)) (hw _ (List.mem_of_getElem? (i := 30) rfl)) (hw _ (List.mem_of_getElem? (i := 31) rfl)) e38 (g := (mkF m 145 #[.val (.int p1), .val (.int p2), .val (.int p3), .val (.int p4), .val (.ref b2), .val (.ref r10), .val (.int (0 : Int32)), .val (.ref b32), .val (.ref tA), .val (.int (own_off (p4 &&& (16 : Int32)))), .unset, .unset, .unset] [])) rfl (hb hby at_145) (by decide) (by decide)
      obtain ⟨b49, g49⟩ : ∃ z, z = h32.size := ⟨_, rfl⟩
      rw [← g49] at A49 D49 st49
      have g_b49 : n0 ≤ b49 := Nat.le_trans Z32 (Nat.le_of_eq g49.symm)
      have sz_b49 : h0.size ≤ b49 := Nat.le_trans Kp34.1 (Nat.le_of_eq g49.symm)
      have ne_b2_b49 : b2 ≠ b49 := Nat.ne_of_lt (Nat.lt_of_lt_of_le Vf33.lt (Nat.le_of_eq g49.symm))
      have ne_b32_b49 : b32 ≠ b49 := Nat.ne_of_lt (Nat.lt_of_lt_of_le V36.lt (Nat.le_of_eq g49.symm))
      have ne_tA_b49 : tA ≠ b49 := Nat.ne_of_lt (Nat.lt_of_lt_of_le EA.lt (Nat.le_of_eq g49.symm))
      have Vf50 := Vf33.ext E49
      have Vf51 := V36.ext E49
      have Ef52 := Ea32.ext E49
      have Ef53 := EA.ext E49
      have Ff54 := FA.ext E49
      have Z49 : n0 ≤ h49.size := Nat.le_trans Z32 E49.1
      have Kp55 : Keep h0 h49 [] := Kp34.ext E49
      have F_mPcr_b49 : Fld Z h49 b49 "com/example/votal/votal/log/LogRecord" "mPcr" "I" (.int (0 : Int32)) := D49 (Or.inr (hw _ (List.mem_of_getElem? (i := 37) rfl))) (ty := .int) (by decide)
      have F_mTemplateDigest_b49 : Fld Z h49 b49 "com/example/votal/votal/log/LogRecord" "mTemplateDigest" "[B" .null := D49 (Or.inr (hw _ (List.mem_of_getElem? (i := 39) rfl))) (ty := (.array .byte)) (by decide)
      have F_mTemplateName_b49 : Fld Z h49 b49 "com/example/votal/votal/log/LogRecord" "mTemplateName" "Ljava/lang/String;" .null := D49 (Or.inr (hw _ (List.mem_of_getElem? (i := 48) rfl))) (ty := (.object "java/lang/String")) (by decide)
      have F_mTemplate_b49 : Fld Z h49 b49 "com/example/votal/votal/log/LogRecord" "mTemplate" "Lcom/example/votal/votal/log/Template;" .null := D49 (Or.inr (hw _ (List.mem_of_getElem? (i := 50) rfl))) (ty := (.object "com/example/votal/votal/log/Template")) (by decide)
      have F_mName_b49 : Fld Z h49 b49 "com/example/votal/votal/log/LogRecord" "mName" "Ljava/lang/String;" .null := D49 (Or.inr (hw _ (List.mem_of_getElem? (i := 52) rfl))) (ty := (.object "java/lang/String")) (by decide)
      have F_mDigestAlgorithm_b49 : Fld Z h49 b49 "com/example/votal/votal/log/LogRecord" "mDigestAlgorithm" "Lcom/example/votal/votal/log/DigestAlgorithm;" .null := D49 (Or.inr (hw _ (List.mem_of_getElem? (i := 54) rfl))) (ty := (.object "com/example/votal/votal/log/DigestAlgorithm")) (by decide)
      have F_mDigest_b49 : Fld Z h49 b49 "com/example/votal/votal/log/LogRecord" "mDigest" "[B" .null := D49 (Or.inr (hw _ (List.mem_of_getElem? (i := 56) rfl))) (ty := (.array .byte)) (by decide)
      have F_mEventDataOffset_b49 : Fld Z h49 b49 "com/example/votal/votal/log/LogRecord" "mEventDataOffset" "I" (.int (0 : Int32)) := D49 (Or.inr (hw _ (List.mem_of_getElem? (i := 58) rfl))) (ty := .int) (by decide)
      have F_mTemplateData_b49 : Fld Z h49 b49 "com/example/votal/votal/log/LogRecord" "mTemplateData" "[B" .null := D49 (Or.inr (hw _ (List.mem_of_getElem? (i := 60) rfl))) (ty := (.array .byte)) (by decide)
      have F_mViolation_b49 : Fld Z h49 b49 "com/example/votal/votal/log/LogRecord" "mViolation" "Z" (.int (0 : Int32)) := D49 (Or.inr (hw _ (List.mem_of_getElem? (i := 65) rfl))) (ty := .boolean) (by decide)
      have ac56 : ∀ t, Steps p.tables e below (T49.setTop (mkF m 148 #[.val (.int p1), .val (.int p2), .val (.int p3), .val (.int p4), .val (.ref b2), .val (.ref r10), .val (.int (0 : Int32)), .val (.ref b32), .val (.ref tA), .val (.int (own_off (p4 &&& (16 : Int32)))), .unset, .unset, .unset] [(.ref b49)])) t → Steps p.tables e below (s₁.setTop (entryFrame m #[(.int p1), (.int p2), (.int p3), (.int p4)] maxLocals)) t := fun t k => ac48 t (st49 t k)
      have ac57 : ∀ t, Steps p.tables e below (T49.setTop (mkF m 164 #[.val (.int p1), .val (.int p2), .val (.int p3), .val (.int p4), .val (.ref b2), .val (.ref r10), .val (.int (0 : Int32)), .val (.ref b32), .val (.ref tA), .val (.int (own_off (p4 &&& (16 : Int32)))), .unset, .unset, .unset] [(.int (0 : Int32)), (.int (own_off (p4 &&& (16 : Int32)))), (.ref r10), (.ref b32), .null, (.ref tA), (.ref b2), (.int ((p4.toUInt32 >>> ((5 : Int32) &&& 31).toUInt32).toInt32)), (.ref b49), (.ref b49)])) t → Steps p.tables e below (s₁.setTop (entryFrame m #[(.int p1), (.int p2), (.int p3), (.int p4)] maxLocals)) t := fun t k => ac56 t (by
          show Steps p.tables e below (T49.setTop (mkF m 148 #[.val (.int p1), .val (.int p2), .val (.int p3), .val (.int p4), .val (.ref b2), .val (.ref r10), .val (.int (0 : Int32)), .val (.ref b32), .val (.ref tA), .val (.int (own_off (p4 &&& (16 : Int32)))), .unset, .unset, .unset] [(.ref b49)])) _
          refine XS.dup X49.here hx rfl (hb hby at_148) rfl rfl ?_
          show Steps p.tables e below (T49.setTop (mkF m 149 #[.val (.int p1), .val (.int p2), .val (.int p3), .val (.int p4), .val (.ref b2), .val (.ref r10), .val (.int (0 : Int32)), .val (.ref b32), .val (.ref tA), .val (.int (own_off (p4 &&& (16 : Int32)))), .unset, .unset, .unset] [(.ref b49), (.ref b49)])) _
          refine XS.iloadN X49.here hx rfl (hb hby at_149) rfl ?_
          show Steps p.tables e below (T49.setTop (mkF m 150 #[.val (.int p1), .val (.int p2), .val (.int p3), .val (.int p4), .val (.ref b2), .val (.ref r10), .val (.int (0 : Int32)), .val (.ref b32), .val (.ref tA), .val (.int (own_off (p4 &&& (16 : Int32)))), .unset, .unset, .unset] [(.int p4), (.ref b49), (.ref b49)])) _
          refine XS.iconst X49.here hx rfl (hb hby at_150) ?_
          show Steps p.tables e below (T49.setTop (mkF m 151 #[.val (.int p1), .val (.int p2), .val (.int p3), .val (.int p4), .val (.ref b2), .val (.ref r10), .val (.int (0 : Int32)), .val (.ref b32), .val (.ref tA), .val (.int (own_off (p4 &&& (16 : Int32)))), .unset, .unset, .unset] [(.int (5 : Int32)), (.int p4), (.ref b49), (.ref b49)])) _
          refine XS.iushr X49.here hx rfl (hb hby at_151) rfl ?_
          show Steps p.tables e below (T49.setTop (mkF m 152 #[.val (.int p1), .val (.int p2), .val (.int p3), .val (.int p4), .val (.ref b2), .val (.ref r10), .val (.int (0 : Int32)), .val (.ref b32), .val (.ref tA), .val (.int (own_off (p4 &&& (16 : Int32)))), .unset, .unset, .unset] [(.int ((p4.toUInt32 >>> ((5 : Int32) &&& 31).toUInt32).toInt32)), (.ref b49), (.ref b49)])) _
          refine XS.aload X49.here hx rfl (hb hby at_152) rfl rfl ?_
          show Steps p.tables e below (T49.setTop (mkF m 154 #[.val (.int p1), .val (.int p2), .val (.int p3), .val (.int p4), .val (.ref b2), .val (.ref r10), .val (.int (0 : Int32)), .val (.ref b32), .val (.ref tA), .val (.int (own_off (p4 &&& (16 : Int32)))), .unset, .unset, .unset] [(.ref b2), (.int ((p4.toUInt32 >>> ((5 : Int32) &&& 31).toUInt32).toInt32)), (.ref b49), (.ref b49)])) _
          refine XS.aload X49.here hx rfl (hb hby at_154) rfl rfl ?_
          show Steps p.tables e below (T49.setTop (mkF m 156 #[.val (.int p1), .val (.int p2), .val (.int p3), .val (.int p4), .val (.ref b2), .val (.ref r10), .val (.int (0 : Int32)), .val (.ref b32), .val (.ref tA), .val (.int (own_off (p4 &&& (16 : Int32)))), .unset, .unset, .unset] [(.ref tA), (.ref b2), (.int ((p4.toUInt32 >>> ((5 : Int32) &&& 31).toUInt32).toInt32)), (.ref b49), (.ref b49)])) _
          refine XS.aconstNull X49.here hx rfl (hb hby at_156) ?_
          show Steps p.tables e below (T49.setTop (mkF m 157 #[.val (.int p1), .val (.int p2), .val (.int p3), .val (.int p4), .val (.ref b2), .val (.ref r10), .val (.int (0 : Int32)), .val (.ref b32), .val (.ref tA), .val (.int (own_off (p4 &&& (16 : Int32)))), .unset, .unset, .unset] [.null, (.ref tA), (.ref b2), (.int ((p4.toUInt32 >>> ((5 : Int32) &&& 31).toUInt32).toInt32)), (.ref b49), (.ref b49)])) _
          refine XS.aload X49.here hx rfl (hb hby at_157) rfl rfl ?_
          show Steps p.tables e below (T49.setTop (mkF m 159 #[.val (.int p1), .val (.int p2), .val (.int p3), .val (.int p4), .val (.ref b2), .val (.ref r10), .val (.int (0 : Int32)), .val (.ref b32), .val (.ref tA), .val (.int (own_off (p4 &&& (16 : Int32)))), .unset, .unset, .unset] [(.ref b32), .null, (.ref tA), (.ref b2), (.int ((p4.toUInt32 >>> ((5 : Int32) &&& 31).toUInt32).toInt32)), (.ref b49), (.ref b49)])) _
          refine XS.aload X49.here hx rfl (hb hby at_159) rfl rfl ?_
          show Steps p.tables e below (T49.setTop (mkF m 161 #[.val (.int p1), .val (.int p2), .val (.int p3), .val (.int p4), .val (.ref b2), .val (.ref r10), .val (.int (0 : Int32)), .val (.ref b32), .val (.ref tA), .val (.int (own_off (p4 &&& (16 : Int32)))), .unset, .unset, .unset] [(.ref r10), (.ref b32), .null, (.ref tA), (.ref b2), (.int ((p4.toUInt32 >>> ((5 : Int32) &&& 31).toUInt32).toInt32)), (.ref b49), (.ref b49)])) _
          refine XS.iload X49.here hx rfl (hb hby at_161) rfl ?_
          show Steps p.tables e below (T49.setTop (mkF m 163 #[.val (.int p1), .val (.int p2), .val (.int p3), .val (.int p4), .val (.ref b2), .val (.ref r10), .val (.int (0 : Int32)), .val (.ref b32), .val (.ref tA), .val (.int (own_off (p4 &&& (16 : Int32)))), .unset, .unset, .unset] [(.int (own_off (p4 &&& (16 : Int32)))), (.ref r10), (.ref b32), .null, (.ref tA), (.ref b2), (.int ((p4.toUInt32 >>> ((5 : Int32) &&& 31).toUInt32).toInt32)), (.ref b49), (.ref b49)])) _
          refine XS.iconst X49.here hx rfl (hb hby at_163) ?_
          exact k)
      obtain ⟨T58, h58, k58, X58, e58, E58, A58, st58⟩ := newP X49 hx hZ (hw _ (List.mem_of_getElem? (i := 0) rfl)) e49 (g := (mkF m 164 #[.val (.int p1), .val (.int p2), .val (.int p3), .val (.int p4), .val (.ref b2), .val (.ref r10), .val (.int (0 : Int32)), .val (.ref b32), .val (.ref tA), .val (.int (own_off (p4 &&& (16 : Int32)))), .unset, .unset, .unset] [(.int (0 : Int32)), (.int (own_off (p4 &&& (16 : Int32)))), (.ref r10), (.ref b32), .null, (.ref tA), (.ref b2), (.int ((p4.toUInt32 >>> ((5 : Int32) &&& 31).toUInt32).toInt32)), (.ref b49), (.ref b49)])) rfl (hb hby at_164) rfl (by decide) (cap := 0) (by decide) (by decide) (by decide) (by decide)
      obtain ⟨b58, g58⟩ : ∃ z, z = h49.size := ⟨_, rfl⟩
      rw [← g58] at A58 st58
      have g_b58 : n0 ≤ b58 := Nat.le_trans Z49 (Nat.le_of_eq g58.symm)
      have sz_b58 : h0.size ≤ b58 := Nat.le_trans Kp55.1 (Nat.le_of_eq g58.symm)
      have ne_b2_b58 : b2 ≠ b58 := Nat.ne_of_lt (Nat.lt_of_lt_of_le Vf50.lt (Nat.le_of_eq g58.symm))
      have ne_b32_b58 : b32 ≠ b58 := Nat.ne_of_lt (Nat.lt_of_lt_of_le Vf51.lt (Nat.le_of_eq g58.symm))
      have ne_tA_b58 : tA ≠ b58 := Nat.ne_of_lt (Nat.lt_of_lt_of_le Ef53.lt (Nat.le_of_eq g58.symm))
      have ne_b49_b58 : b49 ≠ b58 := Nat.ne_of_lt (Nat.lt_of_lt_of_le A49.lt (Nat.le_of_eq g58.symm))
      have Vf59 := Vf50.ext E58
      have Vf60 := Vf51.ext E58
      have Ef61 := Ef52.ext E58
      have Ef62 := Ef53.ext E58
      have Ff63 := Ff54.ext E58
      have Ef64 := A49.ext E58
      have Ff65 := F_mPcr_b49.ext E58
      have Ff66 := F_mTemplateDigest_b49.ext E58
      have Ff67 := F_mTemplateName_b49.ext E58
      have Ff68 := F_mTemplate_b49.ext E58
      have Ff69 := F_mName_b49.ext E58
      have Ff70 := F_mDigestAlgorithm_b49.ext E58
      have Ff71 := F_mDigest_b49.ext E58
      have Ff72 := F_mEventDataOffset_b49.ext E58
      have Ff73 := F_mTemplateData_b49.ext E58
      have Ff74 := F_mViolation_b49.ext E58
      have Z58 : n0 ≤ h58.size := Nat.le_trans Z49 E58.1
      have Kp75 : Keep h0 h58 [] := Kp55.ext E58
      have V58 : own_Ar Z h58 b58 .byte 0 (fun _ => (.int (0 : Int32))) := own_Ar.new A58 rfl
      have ac76 : ∀ t, Steps p.tables e below (T58.setTop (mkF m 166 #[.val (.int p1), .val (.int p2), .val (.int p3), .val (.int p4), .val (.ref b2), .val (.ref r10), .val (.int (0 : Int32)), .val (.ref b32), .val (.ref tA), .val (.int (own_off (p4 &&& (16 : Int32)))), .unset, .unset, .unset] [(.ref b58), (.int (own_off (p4 &&& (16 : Int32)))), (.ref r10), (.ref b32), .null, (.ref tA), (.ref b2), (.int ((p4.toUInt32 >>> ((5 : Int32) &&& 31).toUInt32).toInt32)), (.ref b49), (.ref b49)])) t → Steps p.tables e below (s₁.setTop (entryFrame m #[(.int p1), (.int p2), (.int p3), (.int p4)] maxLocals)) t := fun t k => ac57 t (st58 t k)
      obtain ⟨_, _, ⟨T77, L77, k77, n77⟩, -, X77, ⟨Lc77, hQ77, l77, y77, z77⟩, st77⟩ := X58.specialBack hx (y := (⟨"com/example/votal/votal/log/LogRecord", "<init>", "(I[BLcom/example/votal/votal/log/Template;Lcom/example/votal/votal/log/DigestAlgorithm;[BLjava/lang/String;I[B)V"⟩ : MethodName)) rfl hown (mvT hZ (hw _ (List.mem_of_getElem? (i := 32) rfl))) (mvT hZ (hw _ (List.mem_of_getElem? (i := 33) rfl))) (mvT hZ (hw _ (List.mem_of_getElem? (i := 34) rfl))) (by decide) (backOf (W := 1) (rm6 l Z a0 hw [] b49 ((p4.toUInt32 >>> ((5 : Int32) &&& 31).toUInt32).toInt32) b2 tA b32 r10 (own_off (p4 &&& (16 : Int32))) b58 20 _ nA h58 n0 Z58 Ef64 g_b49 Vf59 (own_td _) (by decide) ne_b2_b49 Ff65 Ff66 Ff67 Ff68 Ff69 Ff70 Ff71 Ff72 Ff73 Ff74 Ef62 Ff63 ne_tA_b49) hZ (hw _ (List.mem_of_getElem? (i := 34) rfl)) (hw _ (List.mem_of_getElem? (i := 31) rfl)) (by decide) (by decide)) (g := (mkF m 166 #[.val (.int p1), .val (.int p2), .val (.int p3), .val (.int p4), .val (.ref b2), .val (.ref r10), .val (.int (0 : Int32)), .val (.ref b32), .val (.ref tA), .val (.int (own_off (p4 &&& (16 : Int32)))), .unset, .unset, .unset] [(.ref b58), (.int (own_off (p4 &&& (16 : Int32)))), (.ref r10), (.ref b32), .null, (.ref tA), (.ref b2), (.int ((p4.toUInt32 >>> ((5 : Int32) &&& 31).toUInt32).toInt32)), (.ref b49), (.ref b49)])) rfl (by rw [hml]; rfl) (Steps.refl _) (a := b49) (argsL := [(.int ((p4.toUInt32 >>> ((5 : Int32) &&& 31).toUInt32).toInt32)), (.ref b2), (.ref tA), .null, (.ref b32), (.ref r10), (.int (own_off (p4 &&& (16 : Int32)))), (.ref b58)]) (rest := [(.ref b49)]) (lenOf pd_5 rfl) rfl (by show 2 * 0 + _ ≤ _; exact Nat.le_of_eq rfl) (hb hby at_166) (fun _ _ => ⟨rfl, e58, (by decide : 6 + 0 ≤ _), (by decide : 35 + 0 ≤ _)⟩)
      dsimp only [Pt.U, Pt.locs, Pt.cells, Pt.slots] at X77 l77 y77 z77 st77 hQ77
      subst l77 y77 z77
      obtain ⟨rfl, N77q, K77q, Ex77, Fl77⟩ := hQ77
      have N77 := Fr.app N10 N77q
      have Vf78 := Vf59.keep K77q (ninS ne_b2_b49 nin0)
      have Vf79 := Vf60.keep K77q (ninS ne_b32_b49 nin0)
      have Ef80 := Ef61.keep K77q
      have Ef81 := Ef62.keep K77q
      have Ff82 := Ff63.keep K77q (ninS ne_tA_b49 nin0)
      have Ef83 := Ef64.keep K77q
      have Vf84 := V58.keep K77q (ninS (Ne.symm ne_b49_b58) nin0)
      have Z77 : n0 ≤ T77.heap.size := Nat.le_trans Z58 K77q.1
      have Kp85 : Keep h0 T77.heap [] := Kp75.trans K77q (allS (Or.inr sz_b49) all0)
      have ac86 : ∀ t, Steps p.tables e below (T77.setTop (mkF m 169 #[.val (.int p1), .val (.int p2), .val (.int p3), .val (.int p4), .val (.ref b2), .val (.ref r10), .val (.int (0 : Int32)), .val (.ref b32), .val (.ref tA), .val (.int (own_off (p4 &&& (16 : Int32)))), .unset, .unset, .unset] [(.ref b49)])) t → Steps p.tables e below (s₁.setTop (entryFrame m #[(.int p1), (.int p2), (.int p3), (.int p4)] maxLocals)) t := fun t k => ac76 t (st77.trans k)
      have ac87 : ∀ t, Steps p.tables e below (T77.setTop (mkF m 173 #[.val (.int p1), .val (.int p2), .val (.int p3), .val (.int p4), .val (.ref b2), .val (.ref r10), .val (.int (0 : Int32)), .val (.ref b32), .val (.ref tA), .val (.int (own_off (p4 &&& (16 : Int32)))), .val (.ref b49), .unset, .unset] [(.ref b49)])) t → Steps p.tables e below (s₁.setTop (entryFrame m #[(.int p1), (.int p2), (.int p3), (.int p4)] maxLocals)) t := fun t k => ac86 t (by
          show Steps p.tables e below (T77.setTop (mkF m 169 #[.val (.int p1), .val (.int p2), .val (.int p3), .val (.int p4), .val (.ref b2), .val (.ref r10), .val (.int (0 : Int32)), .val (.ref b32), .val (.ref tA), .val (.int (own_off (p4 &&& (16 : Int32)))), .unset, .unset, .unset] [(.ref b49)])) _
          refine XS.astore X77.here hx rfl (hb hby at_169) rfl rfl (l' := #[.val (.int p1), .val (.int p2), .val (.int p3), .val (.int p4), .val (.ref b2), .val (.ref r10), .val (.int (0 : Int32)), .val (.ref b32), .val (.ref tA), .val (.int (own_off (p4 &&& (16 : Int32)))), .val (.ref b49), .unset, .unset]) rfl ?_
          show Steps p.tables e below (T77.setTop (mkF m 171 #[.val (.int p1), .val (.int p2), .val (.int p3), .val (.int p4), .val (.ref b2), .val (.ref r10), .val (.int (0 : Int32)), .val (.ref b32), .val (.ref tA), .val (.int (own_off (p4 &&& (16 : Int32)))), .val (.ref b49), .unset, .unset] [])) _
          refine XS.aload X77.here hx rfl (hb hby at_171) rfl rfl ?_
          exact k)
      obtain ⟨cq88, kq88, q88a, q88b, q88c⟩ := isOf hZ rfl Ef83
      obtain ⟨_, _, ⟨T88, L88, k88, n88⟩, -, X88, ⟨Lc88, hQ88, l88, y88, z88⟩, st88⟩ := X77.virtualBack hx (y := (⟨"com/example/votal/votal/log/LogRecord", "getDigest", "()[B"⟩ : MethodName)) (z := (⟨"com/example/votal/votal/log/LogRecord", "getDigest", "()[B"⟩ : MethodName)) hown (mvT hZ (hw _ (List.mem_of_getElem? (i := 66) rfl))) (mvT hZ (hw _ (List.mem_of_getElem? (i := 67) rfl))) (notFace_of_selects (args := #[]) (mvT hZ (hw _ (List.mem_of_getElem? (i := 69) rfl)))) (mvT hZ (hw _ (List.mem_of_getElem? (i := 69) rfl))) (mvT hZ (hw _ (List.mem_of_getElem? (i := 68) rfl))) (by decide) (backOf (W := 0) (rm9c l Z a0 hw [] b49 b32 0 _ T77.heap n0 Z77 Fl77 Vf79 Ef80 (by decide)) hZ (hw _ (List.mem_of_getElem? (i := 70) rfl)) (hw _ (List.mem_of_getElem? (i := 31) rfl)) (by decide) (by decide)) q88a q88c (g := (mkF m 173 #[.val (.int p1), .val (.int p2), .val (.int p3), .val (.int p4), .val (.ref b2), .val (.ref r10), .val (.int (0 : Int32)), .val (.ref b32), .val (.ref tA), .val (.int (own_off (p4 &&& (16 : Int32)))), .val (.ref b49), .unset, .unset] [(.ref b49)])) rfl (by rw [hml]; rfl) (Steps.refl _) (argsL := []) (rest := []) (lenOf pd_8 rfl) rfl (by show 2 * 0 + _ ≤ _; exact Nat.le_of_eq rfl) (hb hby at_173) (fun _ _ => ⟨rfl, rfl, (by decide : 6 + 1 ≤ _), (by decide : 35 + 3 ≤ _)⟩)
      dsimp only [Pt.U, Pt.locs, Pt.cells, Pt.slots] at X88 l88 y88 z88 st88 hQ88
      subst l88 y88 z88
      obtain ⟨r88, rfl, N88q, K88q, sz88, Vr88⟩ := hQ88
      have N88 := Fr.app N77 N88q
      have Vf89 := Vf78.keep K88q nin0
      have Vf90 := Vf79.keep K88q nin0
      have Ef91 := Ef80.keep K88q
      have Ef92 := Ef81.keep K88q
      have Ff93 := Ff82.keep K88q nin0
      have Ef94 := Ef83.keep K88q
      have Vf95 := Vf84.keep K88q nin0
      have Ff96 := Fl77.keep K88q nin0
      have Z88 : n0 ≤ T88.heap.size := Nat.le_trans Z77 K88q.1
      have Kp97 : Keep h0 T88.heap [] := Kp85.trans K88q all0
      have g_r88 : n0 ≤ r88 := Nat.le_trans Z77 sz88
      have sz_r88 : h0.size ≤ r88 := Nat.le_trans Kp85.1 sz88
      have ne_b2_r88 : b2 ≠ r88 := Nat.ne_of_lt (Nat.lt_of_lt_of_le Vf78.lt sz88)
      have ne_b32_r88 : b32 ≠ r88 := Nat.ne_of_lt (Nat.lt_of_lt_of_le Vf79.lt sz88)
      have ne_tA_r88 : tA ≠ r88 := Nat.ne_of_lt (Nat.lt_of_lt_of_le Ef81.lt sz88)
      have ne_b49_r88 : b49 ≠ r88 := Nat.ne_of_lt (Nat.lt_of_lt_of_le Ef83.lt sz88)
      have ne_b58_r88 : b58 ≠ r88 := Nat.ne_of_lt (Nat.lt_of_lt_of_le Vf84.lt sz88)
      have ac98 : ∀ t, Steps p.tables e below (T88.setTop (mkF m 176 #[.val (.int p1), .val (.int p2), .val (.int p3), .val (.int p4), .val (.ref b2), .val (.ref r10), .val (.int (0 : Int32)), .val (.ref b32), .val (.ref tA), .val (.int (own_off (p4 &&& (16 : Int32)))), .val (.ref b49), .unset, .unset] [(.ref r88)])) t → Steps p.tables e below (s₁.setTop (entryFrame m #[(.int p1), (.int p2), (.int p3), (.int p4)] maxLocals)) t := fun t k => ac87 t (st88.trans k)
      have ac99 : ∀ t, Steps p.tables e below (T88.setTop (mkF m 196 #[.val (.int p1), .val (.int p2), .val (.int p3), .val (.int p4), .val (.ref b2), .val (.ref r10), .val (.int (0 : Int32)), .val (.ref b32), .val (.ref tA), .val (.int (own_off (p4 &&& (16 : Int32)))), .val (.ref b49), .val (.ref r88), .unset] [(.int p2), (.int p1), (.int (0 : Int32)), (.ref r88)])) t → Steps p.tables e below (s₁.setTop (entryFrame m #[(.int p1), (.int p2), (.int p3), (.int p4)] maxLocals)) t := fun t k => ac98 t (by
          show Steps p.tables e below (T88.setTop (mkF m 176 #[.val (.int p1), .val (.int p2), .val (.int p3), .val (.int p4), .val (.ref b2), .val (.ref r10), .val (.int (0 : Int32)), .val (.ref b32), .val (.ref tA), .val (.int (own_off (p4 &&& (16 : Int32)))), .val (.ref b49), .unset, .unset] [(.ref r88)])) _
          refine XS.astore X88.here hx rfl (hb hby at_176) rfl rfl (l' := #[.val (.int p1), .val (.int p2), .val (.int p3), .val (.int p4), .val (.ref b2), .val (.ref r10), .val (.int (0 : Int32)), .val (.ref b32), .val (.ref tA), .val (.int (own_off (p4 &&& (16 : Int32)))), .val (.ref b49), .val (.ref r88), .unset]) rfl ?_
          show Steps p.tables e below (T88.setTop (mkF m 178 #[.val (.int p1), .val (.int p2), .val (.int p3), .val (.int p4), .val (.ref b2), .val (.ref r10), .val (.int (0 : Int32)), .val (.ref b32), .val (.ref tA), .val (.int (own_off (p4 &&& (16 : Int32)))), .val (.ref b49), .val (.ref r88), .unset] [])) _
          refine XS.aload X88.here hx rfl (hb hby at_178) rfl rfl ?_
          show Steps p.tables e below (T88.setTop (mkF m 180 #[.val (.int p1), .val (.int p2), .val (.int p3), .val (.int p4), .val (.ref b2), .val (.ref r10), .val (.int (0 : Int32)), .val (.ref b32), .val (.ref tA), .val (.int (own_off (p4 &&& (16 : Int32)))), .val (.ref b49), .val (.ref r88), .unset] [(.ref r88)])) _
          refine XS.ifnullNo X88.here hx rfl (hb hby at_180) rfl ?_
          show Steps p.tables e below (T88.setTop (mkF m 183 #[.val (.int p1), .val (.int p2), .val (.int p3), .val (.int p4), .val (.ref b2), .val (.ref r10), .val (.int (0 : Int32)), .val (.ref b32), .val (.ref tA), .val (.int (own_off (p4 &&& (16 : Int32)))), .val (.ref b49), .val (.ref r88), .unset] [])) _
          refine XS.aload X88.here hx rfl (hb hby at_183) rfl rfl ?_
          show Steps p.tables e below (T88.setTop (mkF m 185 #[.val (.int p1), .val (.int p2), .val (.int p3), .val (.int p4), .val (.ref b2), .val (.ref r10), .val (.int (0 : Int32)), .val (.ref b32), .val (.ref tA), .val (.int (own_off (p4 &&& (16 : Int32)))), .val (.ref b49), .val (.ref r88), .unset] [(.ref r88)])) _
          refine XS.aload X88.here hx rfl (hb hby at_185) rfl rfl ?_
          show Steps p.tables e below (T88.setTop (mkF m 187 #[.val (.int p1), .val (.int p2), .val (.int p3), .val (.int p4), .val (.ref b2), .val (.ref r10), .val (.int (0 : Int32)), .val (.ref b32), .val (.ref tA), .val (.int (own_off (p4 &&& (16 : Int32)))), .val (.ref b49), .val (.ref r88), .unset] [(.ref b32), (.ref r88)])) _
          refine Jvm.RoadKit.acmp (g := (mkF m 187 #[.val (.int p1), .val (.int p2), .val (.int p3), .val (.int p4), .val (.ref b2), .val (.ref r10), .val (.int (0 : Int32)), .val (.ref b32), .val (.ref tA), .val (.int (own_off (p4 &&& (16 : Int32)))), .val (.ref b49), .val (.ref r88), .unset] [(.ref b32), (.ref r88)])) X88 hx rfl rfl rfl (pc0 := 187) (pc' := 190) (same := false) rfl (hb hby at_187) rfl (decide_eq_false fun q => (Ne.symm ne_b32_r88) (Value.ref.inj q)) (by decide) (by decide) ?_
          show Steps p.tables e below (T88.setTop (mkF m 190 #[.val (.int p1), .val (.int p2), .val (.int p3), .val (.int p4), .val (.ref b2), .val (.ref r10), .val (.int (0 : Int32)), .val (.ref b32), .val (.ref tA), .val (.int (own_off (p4 &&& (16 : Int32)))), .val (.ref b49), .val (.ref r88), .unset] [])) _
          refine XS.aload X88.here hx rfl (hb hby at_190) rfl rfl ?_
          show Steps p.tables e below (T88.setTop (mkF m 192 #[.val (.int p1), .val (.int p2), .val (.int p3), .val (.int p4), .val (.ref b2), .val (.ref r10), .val (.int (0 : Int32)), .val (.ref b32), .val (.ref tA), .val (.int (own_off (p4 &&& (16 : Int32)))), .val (.ref b49), .val (.ref r88), .unset] [(.ref r88)])) _
          refine XS.iload X88.here hx rfl (hb hby at_192) rfl ?_
          show Steps p.tables e below (T88.setTop (mkF m 194 #[.val (.int p1), .val (.int p2), .val (.int p3), .val (.int p4), .val (.ref b2), .val (.ref r10), .val (.int (0 : Int32)), .val (.ref b32), .val (.ref tA), .val (.int (own_off (p4 &&& (16 : Int32)))), .val (.ref b49), .val (.ref r88), .unset] [(.int (0 : Int32)), (.ref r88)])) _
          refine XS.iloadN X88.here hx rfl (hb hby at_194) rfl ?_
          show Steps p.tables e below (T88.setTop (mkF m 195 #[.val (.int p1), .val (.int p2), .val (.int p3), .val (.int p4), .val (.ref b2), .val (.ref r10), .val (.int (0 : Int32)), .val (.ref b32), .val (.ref tA), .val (.int (own_off (p4 &&& (16 : Int32)))), .val (.ref b49), .val (.ref r88), .unset] [(.int p1), (.int (0 : Int32)), (.ref r88)])) _
          refine XS.iloadN X88.here hx rfl (hb hby at_195) rfl ?_
          exact k)
      obtain ⟨_, _, ⟨T100, L100, k100, n100⟩, -, X100, ⟨Lc100, hQ100, l100, y100, z100⟩, st100⟩ := Jvm.LawKit.callS X88 hx (y := (⟨"com/example/votal/votal/log/LogRecordGetDigestPinLaw", "same", "([BIII)Z"⟩ : MethodName)) hown (mvT hZ (hw _ (List.mem_of_getElem? (i := 80) rfl))) (mvT hZ (hw _ (List.mem_of_getElem? (i := 81) rfl))) (mvT hZ (hw _ (List.mem_of_getElem? (i := 82) rfl))) (mvT hZ (hw _ (List.mem_of_getElem? (i := 83) rfl))) (by decide) (backOf (W := 0) (rm10_0 l Z a0 hw [] r88 (0 : Int32) p1 p2 _ T88.heap n0 Z88 Vr88 rfl ) hZ (hw _ (List.mem_of_getElem? (i := 83) rfl)) (hw _ (List.mem_of_getElem? (i := 82) rfl)) (by decide) (by decide)) (g := (mkF m 196 #[.val (.int p1), .val (.int p2), .val (.int p3), .val (.int p4), .val (.ref b2), .val (.ref r10), .val (.int (0 : Int32)), .val (.ref b32), .val (.ref tA), .val (.int (own_off (p4 &&& (16 : Int32)))), .val (.ref b49), .val (.ref r88), .unset] [(.int p2), (.int p1), (.int (0 : Int32)), (.ref r88)])) rfl (by rw [hml]; rfl) (argsL := [(.ref r88), (.int (0 : Int32)), (.int p1), (.int p2)]) (rest := []) (lenOf pd_10 rfl) rfl (by show 2 * 0 + _ ≤ _; exact Nat.le_of_eq rfl) (hb hby at_196) (fun _ _ => ⟨rfl, rfl, (by decide : 7 + 0 ≤ _), (by decide : 38 + 0 ≤ _)⟩)
      dsimp only [Pt.U, Pt.locs, Pt.cells, Pt.slots] at X100 l100 y100 z100 st100 hQ100
      subst l100 y100 z100
      obtain ⟨rfl, N100q, Qe100⟩ := hQ100
      have N100 := Fr.app N88 N100q
      have ac101 : ∀ t, Steps p.tables e below (T100.setTop (mkF m 199 #[.val (.int p1), .val (.int p2), .val (.int p3), .val (.int p4), .val (.ref b2), .val (.ref r10), .val (.int (0 : Int32)), .val (.ref b32), .val (.ref tA), .val (.int (own_off (p4 &&& (16 : Int32)))), .val (.ref b49), .val (.ref r88), .unset] [(.int (1 : Int32))])) t → Steps p.tables e below (s₁.setTop (entryFrame m #[(.int p1), (.int p2), (.int p3), (.int p4)] maxLocals)) t := fun t k => ac99 t (st100 t k)
      have ac102 : ∀ t, Steps p.tables e below (T100.setTop (mkF m 222 #[.val (.int p1), .val (.int p2), .val (.int p3), .val (.int p4), .val (.ref b2), .val (.ref r10), .val (.int (0 : Int32)), .val (.ref b32), .val (.ref tA), .val (.int (own_off (p4 &&& (16 : Int32)))), .val (.ref b49), .val (.ref r88), .unset] [(.ref b49)])) t → Steps p.tables e below (s₁.setTop (entryFrame m #[(.int p1), (.int p2), (.int p3), (.int p4)] maxLocals)) t := fun t k => ac101 t (by
          show Steps p.tables e below (T100.setTop (mkF m 199 #[.val (.int p1), .val (.int p2), .val (.int p3), .val (.int p4), .val (.ref b2), .val (.ref r10), .val (.int (0 : Int32)), .val (.ref b32), .val (.ref tA), .val (.int (own_off (p4 &&& (16 : Int32)))), .val (.ref b49), .val (.ref r88), .unset] [(.int (1 : Int32))])) _
          refine XS.ifYes X100.here hx rfl (pc0 := 199) (pc' := 204) rfl (hb hby at_199) rfl ((if0 _ _).trans (feq (by decide)).2) (by decide) (by decide) ?_
          show Steps p.tables e below (T100.setTop (mkF m 204 #[.val (.int p1), .val (.int p2), .val (.int p3), .val (.int p4), .val (.ref b2), .val (.ref r10), .val (.int (0 : Int32)), .val (.ref b32), .val (.ref tA), .val (.int (own_off (p4 &&& (16 : Int32)))), .val (.ref b49), .val (.ref r88), .unset] [])) _
          refine XS.iload X100.here hx rfl (hb hby at_204) rfl ?_
          show Steps p.tables e below (T100.setTop (mkF m 206 #[.val (.int p1), .val (.int p2), .val (.int p3), .val (.int p4), .val (.ref b2), .val (.ref r10), .val (.int (0 : Int32)), .val (.ref b32), .val (.ref tA), .val (.int (own_off (p4 &&& (16 : Int32)))), .val (.ref b49), .val (.ref r88), .unset] [(.int (0 : Int32))])) _
          refine XS.ifYes X100.here hx rfl (pc0 := 206) (pc' := 220) rfl (hb hby at_206) rfl ((if0 _ _).trans (flt (by decide)).2.2.2) (by decide) (by decide) ?_
          show Steps p.tables e below (T100.setTop (mkF m 220 #[.val (.int p1), .val (.int p2), .val (.int p3), .val (.int p4), .val (.ref b2), .val (.ref r10), .val (.int (0 : Int32)), .val (.ref b32), .val (.ref tA), .val (.int (own_off (p4 &&& (16 : Int32)))), .val (.ref b49), .val (.ref r88), .unset] [])) _
          refine XS.aload X100.here hx rfl (hb hby at_220) rfl rfl ?_
          exact k)
      obtain ⟨cq103, kq103, q103a, q103b, q103c⟩ := isOf hZ Qe100 Ef94
      obtain ⟨_, _, ⟨T103, L103, k103, n103⟩, -, X103, ⟨Lc103, hQ103, l103, y103, z103⟩, st103⟩ := X100.virtualBack hx (y := (⟨"com/example/votal/votal/log/LogRecord", "getDigest", "()[B"⟩ : MethodName)) (z := (⟨"com/example/votal/votal/log/LogRecord", "getDigest", "()[B"⟩ : MethodName)) hown (mvT hZ (hw _ (List.mem_of_getElem? (i := 66) rfl))) (mvT hZ (hw _ (List.mem_of_getElem? (i := 67) rfl))) (notFace_of_selects (args := #[]) (mvT hZ (hw _ (List.mem_of_getElem? (i := 69) rfl)))) (mvT hZ (hw _ (List.mem_of_getElem? (i := 69) rfl))) (mvT hZ (hw _ (List.mem_of_getElem? (i := 68) rfl))) (by decide) (backOf (W := 0) (rm9c l Z a0 hw [] b49 b32 0 _ T88.heap n0 Z88 Ff96 Vf90 Ef91 (by decide)) hZ (hw _ (List.mem_of_getElem? (i := 70) rfl)) (hw _ (List.mem_of_getElem? (i := 31) rfl)) (by decide) (by decide)) q103a q103c (g := (mkF m 222 #[.val (.int p1), .val (.int p2), .val (.int p3), .val (.int p4), .val (.ref b2), .val (.ref r10), .val (.int (0 : Int32)), .val (.ref b32), .val (.ref tA), .val (.int (own_off (p4 &&& (16 : Int32)))), .val (.ref b49), .val (.ref r88), .unset] [(.ref b49)])) rfl (by rw [hml]; rfl) (Steps.refl _) (argsL := []) (rest := []) (lenOf pd_8 rfl) rfl (by show 2 * 0 + _ ≤ _; exact Nat.le_of_eq rfl) (hb hby at_222) (fun _ _ => ⟨rfl, Qe100, (by decide : 7 + 1 ≤ _), (by decide : 38 + 3 ≤ _)⟩)
      dsimp only [Pt.U, Pt.locs, Pt.cells, Pt.slots] at X103 l103 y103 z103 st103 hQ103
      subst l103 y103 z103
      obtain ⟨r103, rfl, N103q, K103q, sz103, Vr103⟩ := hQ103
      have N103 := Fr.app N100 N103q
      have Vf104 := Vf89.keep K103q nin0
      have Vf105 := Vf90.keep K103q nin0
      have Ef106 := Ef91.keep K103q
      have Ef107 := Ef92.keep K103q
      have Ff108 := Ff93.keep K103q nin0
      have Ef109 := Ef94.keep K103q
      have Vf110 := Vf95.keep K103q nin0
      have Ff111 := Ff96.keep K103q nin0
      have Vf112 := Vr88.keep K103q nin0
      have Z103 : n0 ≤ T103.heap.size := Nat.le_trans Z88 K103q.1
      have Kp113 : Keep h0 T103.heap [] := Kp97.trans K103q all0
      have g_r103 : n0 ≤ r103 := Nat.le_trans Z88 sz103
      have sz_r103 : h0.size ≤ r103 := Nat.le_trans Kp97.1 sz103
      have ne_b2_r103 : b2 ≠ r103 := Nat.ne_of_lt (Nat.lt_of_lt_of_le Vf89.lt sz103)
      have ne_b32_r103 : b32 ≠ r103 := Nat.ne_of_lt (Nat.lt_of_lt_of_le Vf90.lt sz103)
      have ne_tA_r103 : tA ≠ r103 := Nat.ne_of_lt (Nat.lt_of_lt_of_le Ef92.lt sz103)
      have ne_b49_r103 : b49 ≠ r103 := Nat.ne_of_lt (Nat.lt_of_lt_of_le Ef94.lt sz103)
      have ne_b58_r103 : b58 ≠ r103 := Nat.ne_of_lt (Nat.lt_of_lt_of_le Vf95.lt sz103)
      have ne_r88_r103 : r88 ≠ r103 := Nat.ne_of_lt (Nat.lt_of_lt_of_le Vr88.lt sz103)
      have ac114 : ∀ t, Steps p.tables e below (T103.setTop (mkF m 225 #[.val (.int p1), .val (.int p2), .val (.int p3), .val (.int p4), .val (.ref b2), .val (.ref r10), .val (.int (0 : Int32)), .val (.ref b32), .val (.ref tA), .val (.int (own_off (p4 &&& (16 : Int32)))), .val (.ref b49), .val (.ref r88), .unset] [(.ref r103)])) t → Steps p.tables e below (s₁.setTop (entryFrame m #[(.int p1), (.int p2), (.int p3), (.int p4)] maxLocals)) t := fun t k => ac102 t (st103.trans k)
      have ac115 : ∀ t, Steps p.tables e below (T103.setTop (mkF m 252 #[.val (.int p1), .val (.int p2), .val (.int p3), .val (.int p4), .val (.ref b2), .val (.ref r10), .val (.int (0 : Int32)), .val (.ref b32), .val (.ref tA), .val (.int (own_off (p4 &&& (16 : Int32)))), .val (.ref b49), .val (.ref r88), .val (.ref r103)] [(.int p2), (.int p1), (.int (0 : Int32)), (.ref r103)])) t → Steps p.tables e below (s₁.setTop (entryFrame m #[(.int p1), (.int p2), (.int p3), (.int p4)] maxLocals)) t := fun t k => ac114 t (by
          show Steps p.tables e below (T103.setTop (mkF m 225 #[.val (.int p1), .val (.int p2), .val (.int p3), .val (.int p4), .val (.ref b2), .val (.ref r10), .val (.int (0 : Int32)), .val (.ref b32), .val (.ref tA), .val (.int (own_off (p4 &&& (16 : Int32)))), .val (.ref b49), .val (.ref r88), .unset] [(.ref r103)])) _
          refine XS.astore X103.here hx rfl (hb hby at_225) rfl rfl (l' := #[.val (.int p1), .val (.int p2), .val (.int p3), .val (.int p4), .val (.ref b2), .val (.ref r10), .val (.int (0 : Int32)), .val (.ref b32), .val (.ref tA), .val (.int (own_off (p4 &&& (16 : Int32)))), .val (.ref b49), .val (.ref r88), .val (.ref r103)]) rfl ?_
          show Steps p.tables e below (T103.setTop (mkF m 227 #[.val (.int p1), .val (.int p2), .val (.int p3), .val (.int p4), .val (.ref b2), .val (.ref r10), .val (.int (0 : Int32)), .val (.ref b32), .val (.ref tA), .val (.int (own_off (p4 &&& (16 : Int32)))), .val (.ref b49), .val (.ref r88), .val (.ref r103)] [])) _
          refine XS.aload X103.here hx rfl (hb hby at_227) rfl rfl ?_
          show Steps p.tables e below (T103.setTop (mkF m 229 #[.val (.int p1), .val (.int p2), .val (.int p3), .val (.int p4), .val (.ref b2), .val (.ref r10), .val (.int (0 : Int32)), .val (.ref b32), .val (.ref tA), .val (.int (own_off (p4 &&& (16 : Int32)))), .val (.ref b49), .val (.ref r88), .val (.ref r103)] [(.ref r103)])) _
          refine XS.ifnullNo X103.here hx rfl (hb hby at_229) rfl ?_
          show Steps p.tables e below (T103.setTop (mkF m 232 #[.val (.int p1), .val (.int p2), .val (.int p3), .val (.int p4), .val (.ref b2), .val (.ref r10), .val (.int (0 : Int32)), .val (.ref b32), .val (.ref tA), .val (.int (own_off (p4 &&& (16 : Int32)))), .val (.ref b49), .val (.ref r88), .val (.ref r103)] [])) _
          refine XS.aload X103.here hx rfl (hb hby at_232) rfl rfl ?_
          show Steps p.tables e below (T103.setTop (mkF m 234 #[.val (.int p1), .val (.int p2), .val (.int p3), .val (.int p4), .val (.ref b2), .val (.ref r10), .val (.int (0 : Int32)), .val (.ref b32), .val (.ref tA), .val (.int (own_off (p4 &&& (16 : Int32)))), .val (.ref b49), .val (.ref r88), .val (.ref r103)] [(.ref r103)])) _
          refine XS.aload X103.here hx rfl (hb hby at_234) rfl rfl ?_
          show Steps p.tables e below (T103.setTop (mkF m 236 #[.val (.int p1), .val (.int p2), .val (.int p3), .val (.int p4), .val (.ref b2), .val (.ref r10), .val (.int (0 : Int32)), .val (.ref b32), .val (.ref tA), .val (.int (own_off (p4 &&& (16 : Int32)))), .val (.ref b49), .val (.ref r88), .val (.ref r103)] [(.ref r88), (.ref r103)])) _
          refine Jvm.RoadKit.acmp (g := (mkF m 236 #[.val (.int p1), .val (.int p2), .val (.int p3), .val (.int p4), .val (.ref b2), .val (.ref r10), .val (.int (0 : Int32)), .val (.ref b32), .val (.ref tA), .val (.int (own_off (p4 &&& (16 : Int32)))), .val (.ref b49), .val (.ref r88), .val (.ref r103)] [(.ref r88), (.ref r103)])) X103 hx rfl rfl rfl (pc0 := 236) (pc' := 239) (same := false) rfl (hb hby at_236) rfl (decide_eq_false fun q => (Ne.symm ne_r88_r103) (Value.ref.inj q)) (by decide) (by decide) ?_
          show Steps p.tables e below (T103.setTop (mkF m 239 #[.val (.int p1), .val (.int p2), .val (.int p3), .val (.int p4), .val (.ref b2), .val (.ref r10), .val (.int (0 : Int32)), .val (.ref b32), .val (.ref tA), .val (.int (own_off (p4 &&& (16 : Int32)))), .val (.ref b49), .val (.ref r88), .val (.ref r103)] [])) _
          refine XS.aload X103.here hx rfl (hb hby at_239) rfl rfl ?_
          show Steps p.tables e below (T103.setTop (mkF m 241 #[.val (.int p1), .val (.int p2), .val (.int p3), .val (.int p4), .val (.ref b2), .val (.ref r10), .val (.int (0 : Int32)), .val (.ref b32), .val (.ref tA), .val (.int (own_off (p4 &&& (16 : Int32)))), .val (.ref b49), .val (.ref r88), .val (.ref r103)] [(.ref r103)])) _
          refine XS.aload X103.here hx rfl (hb hby at_241) rfl rfl ?_
          show Steps p.tables e below (T103.setTop (mkF m 243 #[.val (.int p1), .val (.int p2), .val (.int p3), .val (.int p4), .val (.ref b2), .val (.ref r10), .val (.int (0 : Int32)), .val (.ref b32), .val (.ref tA), .val (.int (own_off (p4 &&& (16 : Int32)))), .val (.ref b49), .val (.ref r88), .val (.ref r103)] [(.ref b32), (.ref r103)])) _
          refine Jvm.RoadKit.acmp (g := (mkF m 243 #[.val (.int p1), .val (.int p2), .val (.int p3), .val (.int p4), .val (.ref b2), .val (.ref r10), .val (.int (0 : Int32)), .val (.ref b32), .val (.ref tA), .val (.int (own_off (p4 &&& (16 : Int32)))), .val (.ref b49), .val (.ref r88), .val (.ref r103)] [(.ref b32), (.ref r103)])) X103 hx rfl rfl rfl (pc0 := 243) (pc' := 246) (same := false) rfl (hb hby at_243) rfl (decide_eq_false fun q => (Ne.symm ne_b32_r103) (Value.ref.inj q)) (by decide) (by decide) ?_
          show Steps p.tables e below (T103.setTop (mkF m 246 #[.val (.int p1), .val (.int p2), .val (.int p3), .val (.int p4), .val (.ref b2), .val (.ref r10), .val (.int (0 : Int32)), .val (.ref b32), .val (.ref tA), .val (.int (own_off (p4 &&& (16 : Int32)))), .val (.ref b49), .val (.ref r88), .val (.ref r103)] [])) _
          refine XS.aload X103.here hx rfl (hb hby at_246) rfl rfl ?_
          show Steps p.tables e below (T103.setTop (mkF m 248 #[.val (.int p1), .val (.int p2), .val (.int p3), .val (.int p4), .val (.ref b2), .val (.ref r10), .val (.int (0 : Int32)), .val (.ref b32), .val (.ref tA), .val (.int (own_off (p4 &&& (16 : Int32)))), .val (.ref b49), .val (.ref r88), .val (.ref r103)] [(.ref r103)])) _
          refine XS.iload X103.here hx rfl (hb hby at_248) rfl ?_
          show Steps p.tables e below (T103.setTop (mkF m 250 #[.val (.int p1), .val (.int p2), .val (.int p3), .val (.int p4), .val (.ref b2), .val (.ref r10), .val (.int (0 : Int32)), .val (.ref b32), .val (.ref tA), .val (.int (own_off (p4 &&& (16 : Int32)))), .val (.ref b49), .val (.ref r88), .val (.ref r103)] [(.int (0 : Int32)), (.ref r103)])) _
          refine XS.iloadN X103.here hx rfl (hb hby at_250) rfl ?_
          show Steps p.tables e below (T103.setTop (mkF m 251 #[.val (.int p1), .val (.int p2), .val (.int p3), .val (.int p4), .val (.ref b2), .val (.ref r10), .val (.int (0 : Int32)), .val (.ref b32), .val (.ref tA), .val (.int (own_off (p4 &&& (16 : Int32)))), .val (.ref b49), .val (.ref r88), .val (.ref r103)] [(.int p1), (.int (0 : Int32)), (.ref r103)])) _
          refine XS.iloadN X103.here hx rfl (hb hby at_251) rfl ?_
          exact k)
      obtain ⟨_, _, ⟨T116, L116, k116, n116⟩, -, X116, ⟨Lc116, hQ116, l116, y116, z116⟩, st116⟩ := Jvm.LawKit.callS X103 hx (y := (⟨"com/example/votal/votal/log/LogRecordGetDigestPinLaw", "same", "([BIII)Z"⟩ : MethodName)) hown (mvT hZ (hw _ (List.mem_of_getElem? (i := 80) rfl))) (mvT hZ (hw _ (List.mem_of_getElem? (i := 81) rfl))) (mvT hZ (hw _ (List.mem_of_getElem? (i := 82) rfl))) (mvT hZ (hw _ (List.mem_of_getElem? (i := 83) rfl))) (by decide) (backOf (W := 0) (rm10_0 l Z a0 hw [] r103 (0 : Int32) p1 p2 _ T103.heap n0 Z103 Vr103 rfl ) hZ (hw _ (List.mem_of_getElem? (i := 83) rfl)) (hw _ (List.mem_of_getElem? (i := 82) rfl)) (by decide) (by decide)) (g := (mkF m 252 #[.val (.int p1), .val (.int p2), .val (.int p3), .val (.int p4), .val (.ref b2), .val (.ref r10), .val (.int (0 : Int32)), .val (.ref b32), .val (.ref tA), .val (.int (own_off (p4 &&& (16 : Int32)))), .val (.ref b49), .val (.ref r88), .val (.ref r103)] [(.int p2), (.int p1), (.int (0 : Int32)), (.ref r103)])) rfl (by rw [hml]; rfl) (argsL := [(.ref r103), (.int (0 : Int32)), (.int p1), (.int p2)]) (rest := []) (lenOf pd_10 rfl) rfl (by show 2 * 0 + _ ≤ _; exact Nat.le_of_eq rfl) (hb hby at_252) (fun _ _ => ⟨rfl, rfl, (by decide : 8 + 0 ≤ _), (by decide : 41 + 0 ≤ _)⟩)
      dsimp only [Pt.U, Pt.locs, Pt.cells, Pt.slots] at X116 l116 y116 z116 st116 hQ116
      subst l116 y116 z116
      obtain ⟨rfl, N116q, Qe116⟩ := hQ116
      have N116 := Fr.app N103 N116q
      have ac117 : ∀ t, Steps p.tables e below (T116.setTop (mkF m 255 #[.val (.int p1), .val (.int p2), .val (.int p3), .val (.int p4), .val (.ref b2), .val (.ref r10), .val (.int (0 : Int32)), .val (.ref b32), .val (.ref tA), .val (.int (own_off (p4 &&& (16 : Int32)))), .val (.ref b49), .val (.ref r88), .val (.ref r103)] [(.int (1 : Int32))])) t → Steps p.tables e below (s₁.setTop (entryFrame m #[(.int p1), (.int p2), (.int p3), (.int p4)] maxLocals)) t := fun t k => ac115 t (st116 t k)
      have ac118 : ∀ t, Steps p.tables e below (T116.setTop (mkF m 263 #[.val (.int p1), .val (.int p2), .val (.int p3), .val (.int p4), .val (.ref b2), .val (.ref r10), .val (.int (0 : Int32)), .val (.ref b32), .val (.ref tA), .val (.int (own_off (p4 &&& (16 : Int32)))), .val (.ref b49), .val (.ref r88), .val (.ref r103)] [(.int (1 : Int32))])) t → Steps p.tables e below (s₁.setTop (entryFrame m #[(.int p1), (.int p2), (.int p3), (.int p4)] maxLocals)) t := fun t k => ac117 t (by
          show Steps p.tables e below (T116.setTop (mkF m 255 #[.val (.int p1), .val (.int p2), .val (.int p3), .val (.int p4), .val (.ref b2), .val (.ref r10), .val (.int (0 : Int32)), .val (.ref b32), .val (.ref tA), .val (.int (own_off (p4 &&& (16 : Int32)))), .val (.ref b49), .val (.ref r88), .val (.ref r103)] [(.int (1 : Int32))])) _
          refine XS.ifNo X116.here hx rfl (hb hby at_255) rfl ((if0 _ _).trans (feq (by decide)).1) ?_
          show Steps p.tables e below (T116.setTop (mkF m 258 #[.val (.int p1), .val (.int p2), .val (.int p3), .val (.int p4), .val (.ref b2), .val (.ref r10), .val (.int (0 : Int32)), .val (.ref b32), .val (.ref tA), .val (.int (own_off (p4 &&& (16 : Int32)))), .val (.ref b49), .val (.ref r88), .val (.ref r103)] [])) _
          refine XS.iconst X116.here hx rfl (hb hby at_258) ?_
          show Steps p.tables e below (T116.setTop (mkF m 259 #[.val (.int p1), .val (.int p2), .val (.int p3), .val (.int p4), .val (.ref b2), .val (.ref r10), .val (.int (0 : Int32)), .val (.ref b32), .val (.ref tA), .val (.int (own_off (p4 &&& (16 : Int32)))), .val (.ref b49), .val (.ref r88), .val (.ref r103)] [(.int (1 : Int32))])) _
          refine XS.goto X116.here hx rfl (pc0 := 259) (pc' := 263) rfl (hb hby at_259) (by decide) (by decide) ?_
          exact k)
      obtain ⟨fs, hr, hrun, hended, hW, hsame⟩ := X116.leave (v := some (.int (1 : Int32))) (fun h => by rw [Bd.returns] at h; cases h) (BodyLoose.notSynchronized Bd)
      refine ⟨_, _, ac118 _ ?_, hrun, hended, _, _, rfl, ?_, ⟨_, rfl⟩, hW, hsame.mono (by decide) (by decide)⟩
      · show Steps p.tables e below (T116.setTop (mkF m 263 #[.val (.int p1), .val (.int p2), .val (.int p3), .val (.int p4), .val (.ref b2), .val (.ref r10), .val (.int (0 : Int32)), .val (.ref b32), .val (.ref tA), .val (.int (own_off (p4 &&& (16 : Int32)))), .val (.ref b49), .val (.ref r88), .val (.ref r103)] [(.int (1 : Int32))])) _
        exact retN X116 hx (t := .boolean) Bd.returns (by simp) (hb hby at_263) hr
      · show Q0 Z p1 p2 p3 p4 cs tN tB nN nB h0 n0 _ T116.heap _
        rw [Qe116]
        exact ⟨rfl, N116⟩
    ·
      rw [hl] at ac30
      have ac119 : ∀ t, Steps p.tables e below (T10.setTop (mkF m 71 #[.val (.int p1), .val (.int p2), .val (.int p3), .val (.int p4), .val (.ref b2), .val (.ref r10), .val (.int (1 : Int32)), .unset, .unset, .unset, .unset, .unset, .unset] [(.int (1 : Int32))])) t → Steps p.tables e below (s₁.setTop (entryFrame m #[(.int p1), (.int p2), (.int p3), (.int p4)] maxLocals)) t := fun t k => ac30 t (by
          show Steps p.tables e below (T10.setTop (mkF m 69 #[.val (.int p1), .val (.int p2), .val (.int p3), .val (.int p4), .val (.ref b2), .val (.ref r10), .val (.int (1 : Int32)), .unset, .unset, .unset, .unset, .unset, .unset] [])) _
          refine XS.iload X10.here hx rfl (hb hby at_69) rfl ?_
          exact k)
      obtain ⟨T120, h120, k120, X120, e120, E120, A120, Ea120, st120⟩ := newPE X10 hx hZ (hw _ (List.mem_of_getElem? (i := 0) rfl)) rfl (g := (mkF m 71 #[.val (.int p1), .val (.int p2), .val (.int p3), .val (.int p4), .val (.ref b2), .val (.ref r10), .val (.int (1 : Int32)), .unset, .unset, .unset, .unset, .unset, .unset] [(.int (1 : Int32))])) rfl (hb hby at_71) rfl (by decide) (cap := 1) (by decide) (by decide) (by decide) (by decide) (ad := "[B") (by decide)
      obtain ⟨b120, g120⟩ : ∃ z, z = T10.heap.size := ⟨_, rfl⟩
      rw [← g120] at A120 st120 Ea120
      have g_b120 : n0 ≤ b120 := Nat.le_trans Z10 (Nat.le_of_eq g120.symm)
      have sz_b120 : h0.size ≤ b120 := Nat.le_trans Kp12.1 (Nat.le_of_eq g120.symm)
      have ne_b2_b120 : b2 ≠ b120 := Nat.ne_of_lt (Nat.lt_of_lt_of_le Vf11.lt (Nat.le_of_eq g120.symm))
      have Vf121 := Vf11.ext E120
      have Z120 : n0 ≤ h120.size := Nat.le_trans Z10 E120.1
      have Kp122 : Keep h0 h120 [] := Kp12.ext E120
      have V120 : own_Ar Z h120 b120 .byte 1 (fun _ => (.int (0 : Int32))) := own_Ar.new A120 rfl
      have ac123 : ∀ t, Steps p.tables e below (T120.setTop (mkF m 73 #[.val (.int p1), .val (.int p2), .val (.int p3), .val (.int p4), .val (.ref b2), .val (.ref r10), .val (.int (1 : Int32)), .unset, .unset, .unset, .unset, .unset, .unset] [(.ref b120)])) t → Steps p.tables e below (s₁.setTop (entryFrame m #[(.int p1), (.int p2), (.int p3), (.int p4)] maxLocals)) t := fun t k => ac119 t (st120 t k)
      have ac124 : ∀ t, Steps p.tables e below (T120.setTop (mkF m 85 #[.val (.int p1), .val (.int p2), .val (.int p3), .val (.int p4), .val (.ref b2), .val (.ref r10), .val (.int (1 : Int32)), .val (.ref b120), .unset, .unset, .unset, .unset, .unset] [(.int (p1.toInt8.toInt32)), (.int (0 : Int32)), (.ref b120)])) t → Steps p.tables e below (s₁.setTop (entryFrame m #[(.int p1), (.int p2), (.int p3), (.int p4)] maxLocals)) t := fun t k => ac123 t (by
          show Steps p.tables e below (T120.setTop (mkF m 73 #[.val (.int p1), .val (.int p2), .val (.int p3), .val (.int p4), .val (.ref b2), .val (.ref r10), .val (.int (1 : Int32)), .unset, .unset, .unset, .unset, .unset, .unset] [(.ref b120)])) _
          refine XS.astore X120.here hx rfl (hb hby at_73) rfl rfl (l' := #[.val (.int p1), .val (.int p2), .val (.int p3), .val (.int p4), .val (.ref b2), .val (.ref r10), .val (.int (1 : Int32)), .val (.ref b120), .unset, .unset, .unset, .unset, .unset]) rfl ?_
          show Steps p.tables e below (T120.setTop (mkF m 75 #[.val (.int p1), .val (.int p2), .val (.int p3), .val (.int p4), .val (.ref b2), .val (.ref r10), .val (.int (1 : Int32)), .val (.ref b120), .unset, .unset, .unset, .unset, .unset] [])) _
          refine XS.iload X120.here hx rfl (hb hby at_75) rfl ?_
          show Steps p.tables e below (T120.setTop (mkF m 77 #[.val (.int p1), .val (.int p2), .val (.int p3), .val (.int p4), .val (.ref b2), .val (.ref r10), .val (.int (1 : Int32)), .val (.ref b120), .unset, .unset, .unset, .unset, .unset] [(.int (1 : Int32))])) _
          refine XS.ifNo X120.here hx rfl (hb hby at_77) rfl ((if0 _ _).trans (tlt (by decide)).2.2.2) ?_
          show Steps p.tables e below (T120.setTop (mkF m 80 #[.val (.int p1), .val (.int p2), .val (.int p3), .val (.int p4), .val (.ref b2), .val (.ref r10), .val (.int (1 : Int32)), .val (.ref b120), .unset, .unset, .unset, .unset, .unset] [])) _
          refine XS.aload X120.here hx rfl (hb hby at_80) rfl rfl ?_
          show Steps p.tables e below (T120.setTop (mkF m 82 #[.val (.int p1), .val (.int p2), .val (.int p3), .val (.int p4), .val (.ref b2), .val (.ref r10), .val (.int (1 : Int32)), .val (.ref b120), .unset, .unset, .unset, .unset, .unset] [(.ref b120)])) _
          refine XS.iconst X120.here hx rfl (hb hby at_82) ?_
          show Steps p.tables e below (T120.setTop (mkF m 83 #[.val (.int p1), .val (.int p2), .val (.int p3), .val (.int p4), .val (.ref b2), .val (.ref r10), .val (.int (1 : Int32)), .val (.ref b120), .unset, .unset, .unset, .unset, .unset] [(.int (0 : Int32)), (.ref b120)])) _
          refine XS.iloadN X120.here hx rfl (hb hby at_83) rfl ?_
          show Steps p.tables e below (T120.setTop (mkF m 84 #[.val (.int p1), .val (.int p2), .val (.int p3), .val (.int p4), .val (.ref b2), .val (.ref r10), .val (.int (1 : Int32)), .val (.ref b120), .unset, .unset, .unset, .unset, .unset] [(.int p1), (.int (0 : Int32)), (.ref b120)])) _
          refine XS.i2b X120.here hx rfl (hb hby at_84) rfl ?_
          exact k)
      obtain ⟨cl125, Ac125, hin125, -⟩ := V120.at (j := (0 : Int32)) (i := 0) rfl (by decide)
      obtain ⟨T125, h125, X125, e125, W125, st125⟩ := stB X120 hx hZ e120 Ac125 (j := (0 : Int32)) hin125 (g := (mkF m 85 #[.val (.int p1), .val (.int p2), .val (.int p3), .val (.int p4), .val (.ref b2), .val (.ref r10), .val (.int (1 : Int32)), .val (.ref b120), .unset, .unset, .unset, .unset, .unset] [(.int (p1.toInt8.toInt32)), (.int (0 : Int32)), (.ref b120)])) rfl rfl (hb hby at_85)
      have V125 := V120.set (i := 0) rfl W125 (fits_nar_byte _)
      have Vf126 := Vf121.other W125 ne_b2_b120
      have Ef127 := Ea120.wr W125
      have N125 := Fr.snoc X125 N10 g_b120
      have Z125 : n0 ≤ h125.size := Nat.le_trans Z120 (Keep.of_wr W125).1
      have Kp128 : Keep h0 h125 [] := Kp122.wr W125 (Or.inr sz_b120)
      have ac129 : ∀ t, Steps p.tables e below (T125.setTop (mkF m 86 #[.val (.int p1), .val (.int p2), .val (.int p3), .val (.int p4), .val (.ref b2), .val (.ref r10), .val (.int (1 : Int32)), .val (.ref b120), .unset, .unset, .unset, .unset, .unset] [])) t → Steps p.tables e below (s₁.setTop (entryFrame m #[(.int p1), (.int p2), (.int p3), (.int p4)] maxLocals)) t := fun t k => ac124 t (st125 t k)
      have V130 : own_Ar Z h125 b120 .byte 1 (fun k => if k = 0 then .int (p1.toInt8.toInt32) else .int 0) := V125.eq (fun k hk => match k, hk with | 0, _ => congrArg Value.int (own_b2 _))
      have ac131 : ∀ t, Steps p.tables e below (T125.setTop (mkF m 117 #[.val (.int p1), .val (.int p2), .val (.int p3), .val (.int p4), .val (.ref b2), .val (.ref r10), .val (.int (1 : Int32)), .val (.ref b120), .unset, .unset, .unset, .unset, .unset] [(.int (p4 &&& (8 : Int32)))])) t → Steps p.tables e below (s₁.setTop (entryFrame m #[(.int p1), (.int p2), (.int p3), (.int p4)] maxLocals)) t := fun t k => ac129 t (by
          show Steps p.tables e below (T125.setTop (mkF m 86 #[.val (.int p1), .val (.int p2), .val (.int p3), .val (.int p4), .val (.ref b2), .val (.ref r10), .val (.int (1 : Int32)), .val (.ref b120), .unset, .unset, .unset, .unset, .unset] [])) _
          refine XS.iload X125.here hx rfl (hb hby at_86) rfl ?_
          show Steps p.tables e below (T125.setTop (mkF m 88 #[.val (.int p1), .val (.int p2), .val (.int p3), .val (.int p4), .val (.ref b2), .val (.ref r10), .val (.int (1 : Int32)), .val (.ref b120), .unset, .unset, .unset, .unset, .unset] [(.int (1 : Int32))])) _
          refine XS.iconst X125.here hx rfl (hb hby at_88) ?_
          show Steps p.tables e below (T125.setTop (mkF m 89 #[.val (.int p1), .val (.int p2), .val (.int p3), .val (.int p4), .val (.ref b2), .val (.ref r10), .val (.int (1 : Int32)), .val (.ref b120), .unset, .unset, .unset, .unset, .unset] [(.int (1 : Int32)), (.int (1 : Int32))])) _
          refine XS.icmpYes X125.here hx rfl (pc0 := 89) (pc' := 101) rfl (hb hby at_89) rfl (flt (by decide)).2.2.2 (by decide) (by decide) ?_
          show Steps p.tables e below (T125.setTop (mkF m 101 #[.val (.int p1), .val (.int p2), .val (.int p3), .val (.int p4), .val (.ref b2), .val (.ref r10), .val (.int (1 : Int32)), .val (.ref b120), .unset, .unset, .unset, .unset, .unset] [])) _
          refine XS.iload X125.here hx rfl (hb hby at_101) rfl ?_
          show Steps p.tables e below (T125.setTop (mkF m 103 #[.val (.int p1), .val (.int p2), .val (.int p3), .val (.int p4), .val (.ref b2), .val (.ref r10), .val (.int (1 : Int32)), .val (.ref b120), .unset, .unset, .unset, .unset, .unset] [(.int (1 : Int32))])) _
          refine XS.iconst X125.here hx rfl (hb hby at_103) ?_
          show Steps p.tables e below (T125.setTop (mkF m 104 #[.val (.int p1), .val (.int p2), .val (.int p3), .val (.int p4), .val (.ref b2), .val (.ref r10), .val (.int (1 : Int32)), .val (.ref b120), .unset, .unset, .unset, .unset, .unset] [(.int (2 : Int32)), (.int (1 : Int32))])) _
          refine XS.icmpYes X125.here hx rfl (pc0 := 104) (pc' := 113) rfl (hb hby at_104) rfl (flt (by decide)).2.2.2 (by decide) (by decide) ?_
          show Steps p.tables e below (T125.setTop (mkF m 113 #[.val (.int p1), .val (.int p2), .val (.int p3), .val (.int p4), .val (.ref b2), .val (.ref r10), .val (.int (1 : Int32)), .val (.ref b120), .unset, .unset, .unset, .unset, .unset] [])) _
          refine XS.iloadN X125.here hx rfl (hb hby at_113) rfl ?_
          show Steps p.tables e below (T125.setTop (mkF m 114 #[.val (.int p1), .val (.int p2), .val (.int p3), .val (.int p4), .val (.ref b2), .val (.ref r10), .val (.int (1 : Int32)), .val (.ref b120), .unset, .unset, .unset, .unset, .unset] [(.int p4)])) _
          refine XS.bipush X125.here hx rfl (hb hby at_114) ?_
          show Steps p.tables e below (T125.setTop (mkF m 116 #[.val (.int p1), .val (.int p2), .val (.int p3), .val (.int p4), .val (.ref b2), .val (.ref r10), .val (.int (1 : Int32)), .val (.ref b120), .unset, .unset, .unset, .unset, .unset] [(.int (8 : Int32)), (.int p4)])) _
          refine XS.iand X125.here hx rfl (hb hby at_116) rfl ?_
          exact k)
      obtain ⟨T132, tA, nA, X132, e132, EA, FA, ltA, ac132_⟩ : ∃ (T' : State) (tA : Addr) (nA : Addr), own_StT X125 T' ∧ T'.heap = h125 ∧ Exa Z h125 tA "com/example/votal/votal/log/Template" ∧ Fld Z h125 tA "com/example/votal/votal/log/Template" "mName" "Ljava/lang/String;" (.ref nA) ∧ tA < h0.size ∧ ∀ t, Steps p.tables e below (T'.setTop (mkF m 129 #[.val (.int p1), .val (.int p2), .val (.int p3), .val (.int p4), .val (.ref b2), .val (.ref r10), .val (.int (1 : Int32)), .val (.ref b120), .unset, .unset, .unset, .unset, .unset] [(.ref tA)])) t → Steps p.tables e below (s₁.setTop (entryFrame m #[(.int p1), (.int p2), (.int p3), (.int p4)] maxLocals)) t := by
        by_cases hm : (p4 &&& (8 : Int32)) = (0 : Int32)
        ·
          have ac133 : ∀ t, Steps p.tables e below (T125.setTop (mkF m 126 #[.val (.int p1), .val (.int p2), .val (.int p3), .val (.int p4), .val (.ref b2), .val (.ref r10), .val (.int (1 : Int32)), .val (.ref b120), .unset, .unset, .unset, .unset, .unset] [])) t → Steps p.tables e below (s₁.setTop (entryFrame m #[(.int p1), (.int p2), (.int p3), (.int p4)] maxLocals)) t := fun t k => ac131 t (by
              show Steps p.tables e below (T125.setTop (mkF m 117 #[.val (.int p1), .val (.int p2), .val (.int p3), .val (.int p4), .val (.ref b2), .val (.ref r10), .val (.int (1 : Int32)), .val (.ref b120), .unset, .unset, .unset, .unset, .unset] [(.int (p4 &&& (8 : Int32)))])) _
              refine XS.ifYes X125.here hx rfl (pc0 := 117) (pc' := 126) rfl (hb hby at_117) rfl ((if0 _ _).trans (teq hm).1) (by decide) (by decide) ?_
              exact k)
          obtain ⟨T134, X134, e134, st134⟩ := getS2 X125 hx hZ hown (host := "") (Or.inl (hw _ (List.mem_of_getElem? (i := 26) rfl))) Via.refl e125 (own_Sta_keep SN Kp128) (g := (mkF m 126 #[.val (.int p1), .val (.int p2), .val (.int p3), .val (.int p4), .val (.ref b2), .val (.ref r10), .val (.int (1 : Int32)), .val (.ref b120), .unset, .unset, .unset, .unset, .unset] [])) rfl (hb hby at_126)
          have ac135 : ∀ t, Steps p.tables e below (T134.setTop (mkF m 129 #[.val (.int p1), .val (.int p2), .val (.int p3), .val (.int p4), .val (.ref b2), .val (.ref r10), .val (.int (1 : Int32)), .val (.ref b120), .unset, .unset, .unset, .unset, .unset] [(.ref tN)])) t → Steps p.tables e below (s₁.setTop (entryFrame m #[(.int p1), (.int p2), (.int p3), (.int p4)] maxLocals)) t := fun t k => ac133 t (st134 t k)
          exact ⟨T134, tN, nN, X134, e134, (EN.keep Kp128), (FN.keep Kp128 nin0), EN.lt, ac135⟩
        ·
          have ac136 : ∀ t, Steps p.tables e below (T125.setTop (mkF m 120 #[.val (.int p1), .val (.int p2), .val (.int p3), .val (.int p4), .val (.ref b2), .val (.ref r10), .val (.int (1 : Int32)), .val (.ref b120), .unset, .unset, .unset, .unset, .unset] [])) t → Steps p.tables e below (s₁.setTop (entryFrame m #[(.int p1), (.int p2), (.int p3), (.int p4)] maxLocals)) t := fun t k => ac131 t (by
              show Steps p.tables e below (T125.setTop (mkF m 117 #[.val (.int p1), .val (.int p2), .val (.int p3), .val (.int p4), .val (.ref b2), .val (.ref r10), .val (.int (1 : Int32)), .val (.ref b120), .unset, .unset, .unset, .unset, .unset] [(.int (p4 &&& (8 : Int32)))])) _
              refine XS.ifNo X125.here hx rfl (hb hby at_117) rfl ((if0 _ _).trans (feq hm).1) ?_
              exact k)
          obtain ⟨T137, X137, e137, st137⟩ := getS2 X125 hx hZ hown (host := "") (Or.inl (hw _ (List.mem_of_getElem? (i := 87) rfl))) Via.refl e125 (own_Sta_keep SB Kp128) (g := (mkF m 120 #[.val (.int p1), .val (.int p2), .val (.int p3), .val (.int p4), .val (.ref b2), .val (.ref r10), .val (.int (1 : Int32)), .val (.ref b120), .unset, .unset, .unset, .unset, .unset] [])) rfl (hb hby at_120)
          have ac138 : ∀ t, Steps p.tables e below (T137.setTop (mkF m 123 #[.val (.int p1), .val (.int p2), .val (.int p3), .val (.int p4), .val (.ref b2), .val (.ref r10), .val (.int (1 : Int32)), .val (.ref b120), .unset, .unset, .unset, .unset, .unset] [(.ref tB)])) t → Steps p.tables e below (s₁.setTop (entryFrame m #[(.int p1), (.int p2), (.int p3), (.int p4)] maxLocals)) t := fun t k => ac136 t (st137 t k)
          have ac139 : ∀ t, Steps p.tables e below (T137.setTop (mkF m 129 #[.val (.int p1), .val (.int p2), .val (.int p3), .val (.int p4), .val (.ref b2), .val (.ref r10), .val (.int (1 : Int32)), .val (.ref b120), .unset, .unset, .unset, .unset, .unset] [(.ref tB)])) t → Steps p.tables e below (s₁.setTop (entryFrame m #[(.int p1), (.int p2), (.int p3), (.int p4)] maxLocals)) t := fun t k => ac138 t (by
              show Steps p.tables e below (T137.setTop (mkF m 123 #[.val (.int p1), .val (.int p2), .val (.int p3), .val (.int p4), .val (.ref b2), .val (.ref r10), .val (.int (1 : Int32)), .val (.ref b120), .unset, .unset, .unset, .unset, .unset] [(.ref tB)])) _
              refine XS.goto X137.here hx rfl (pc0 := 123) (pc' := 129) rfl (hb hby at_123) (by decide) (by decide) ?_
              exact k)
          exact ⟨T137, tB, nB, X137, e137, (EB.keep Kp128), (FB.keep Kp128 nin0), EB.lt, ac139⟩
      have ac140 : ∀ t, Steps p.tables e below (T132.setTop (mkF m 135 #[.val (.int p1), .val (.int p2), .val (.int p3), .val (.int p4), .val (.ref b2), .val (.ref r10), .val (.int (1 : Int32)), .val (.ref b120), .val (.ref tA), .unset, .unset, .unset, .unset] [(.int (p4 &&& (16 : Int32)))])) t → Steps p.tables e below (s₁.setTop (entryFrame m #[(.int p1), (.int p2), (.int p3), (.int p4)] maxLocals)) t := fun t k => ac132_ t (by
          show Steps p.tables e below (T132.setTop (mkF m 129 #[.val (.int p1), .val (.int p2), .val (.int p3), .val (.int p4), .val (.ref b2), .val (.ref r10), .val (.int (1 : Int32)), .val (.ref b120), .unset, .unset, .unset, .unset, .unset] [(.ref tA)])) _
          refine XS.astore X132.here hx rfl (hb hby at_129) rfl rfl (l' := #[.val (.int p1), .val (.int p2), .val (.int p3), .val (.int p4), .val (.ref b2), .val (.ref r10), .val (.int (1 : Int32)), .val (.ref b120), .val (.ref tA), .unset, .unset, .unset, .unset]) rfl ?_
          show Steps p.tables e below (T132.setTop (mkF m 131 #[.val (.int p1), .val (.int p2), .val (.int p3), .val (.int p4), .val (.ref b2), .val (.ref r10), .val (.int (1 : Int32)), .val (.ref b120), .val (.ref tA), .unset, .unset, .unset, .unset] [])) _
          refine XS.iloadN X132.here hx rfl (hb hby at_131) rfl ?_
          show Steps p.tables e below (T132.setTop (mkF m 132 #[.val (.int p1), .val (.int p2), .val (.int p3), .val (.int p4), .val (.ref b2), .val (.ref r10), .val (.int (1 : Int32)), .val (.ref b120), .val (.ref tA), .unset, .unset, .unset, .unset] [(.int p4)])) _
          refine XS.bipush X132.here hx rfl (hb hby at_132) ?_
          show Steps p.tables e below (T132.setTop (mkF m 134 #[.val (.int p1), .val (.int p2), .val (.int p3), .val (.int p4), .val (.ref b2), .val (.ref r10), .val (.int (1 : Int32)), .val (.ref b120), .val (.ref tA), .unset, .unset, .unset, .unset] [(.int (16 : Int32)), (.int p4)])) _
          refine XS.iand X132.here hx rfl (hb hby at_134) rfl ?_
          exact k)
      have ac141 : ∀ t, Steps p.tables e below (T132.setTop (mkF m 143 #[.val (.int p1), .val (.int p2), .val (.int p3), .val (.int p4), .val (.ref b2), .val (.ref r10), .val (.int (1 : Int32)), .val (.ref b120), .val (.ref tA), .unset, .unset, .unset, .unset] [(.int (own_off (p4 &&& (16 : Int32))))])) t → Steps p.tables e below (s₁.setTop (entryFrame m #[(.int p1), (.int p2), (.int p3), (.int p4)] maxLocals)) t := fun t k => ac140 t (by
          by_cases hm : (p4 &&& (16 : Int32)) = (0 : Int32)
          ·
            show Steps p.tables e below (T132.setTop (mkF m 135 #[.val (.int p1), .val (.int p2), .val (.int p3), .val (.int p4), .val (.ref b2), .val (.ref r10), .val (.int (1 : Int32)), .val (.ref b120), .val (.ref tA), .unset, .unset, .unset, .unset] [(.int (p4 &&& (16 : Int32)))])) _
            refine XS.ifYes X132.here hx rfl (pc0 := 135) (pc' := 142) rfl (hb hby at_135) rfl ((if0 _ _).trans (teq hm).1) (by decide) (by decide) ?_
            show Steps p.tables e below (T132.setTop (mkF m 142 #[.val (.int p1), .val (.int p2), .val (.int p3), .val (.int p4), .val (.ref b2), .val (.ref r10), .val (.int (1 : Int32)), .val (.ref b120), .val (.ref tA), .unset, .unset, .unset, .unset] [])) _
            refine XS.iconst X132.here hx rfl (hb hby at_142) ?_
            rw [own_off_0 hm] at k; exact k
          ·
            show Steps p.tables e below (T132.setTop (mkF m 135 #[.val (.int p1), .val (.int p2), .val (.int p3), .val (.int p4), .val (.ref b2), .val (.ref r10), .val (.int (1 : Int32)), .val (.ref b120), .val (.ref tA), .unset, .unset, .unset, .unset] [(.int (p4 &&& (16 : Int32)))])) _
            refine XS.ifNo X132.here hx rfl (hb hby at_135) rfl ((if0 _ _).trans (feq hm).1) ?_
            show Steps p.tables e below (T132.setTop (mkF m 138 #[.val (.int p1), .val (.int p2), .val (.int p3), .val (.int p4), .val (.ref b2), .val (.ref r10), .val (.int (1 : Int32)), .val (.ref b120), .val (.ref tA), .unset, .unset, .unset, .unset] [])) _
            refine XS.iconst X132.here hx rfl (hb hby at_138) ?_
            show Steps p.tables e below (T132.setTop (mkF m 139 #[.val (.int p1), .val (.int p2), .val (.int p3), .val (.int p4), .val (.ref b2), .val (.ref r10), .val (.int (1 : Int32)), .val (.ref b120), .val (.ref tA), .unset, .unset, .unset, .unset] [(.int (-1 : Int32))])) _
            refine XS.goto X132.here hx rfl (pc0 := 139) (pc' := 143) rfl (hb hby at_139) (by decide) (by decide) ?_
            rw [own_off_1 hm] at k; exact k)
      have ac142 : ∀ t, Steps p.tables e below (T132.setTop (mkF m 145 #[.val (.int p1), .val (.int p2), .val (.int p3), .val (.int p4), .val (.ref b2), .val (.ref r10), .val (.int (1 : Int32)), .val (.ref b120), .val (.ref tA), .val (.int (own_off (p4 &&& (16 : Int32)))), .unset, .unset, .unset] [])) t → Steps p.tables e below (s₁.setTop (entryFrame m #[(.int p1), (.int p2), (.int p3), (.int p4)] maxLocals)) t := fun t k => ac141 t (by
          show Steps p.tables e below (T132.setTop (mkF m 143 #[.val (.int p1), .val (.int p2), .val (.int p3), .val (.int p4), .val (.ref b2), .val (.ref r10), .val (.int (1 : Int32)), .val (.ref b120), .val (.ref tA), .unset, .unset, .unset, .unset] [(.int (own_off (p4 &&& (16 : Int32))))])) _
          refine XS.istore X132.here hx rfl (hb hby at_143) rfl (l' := #[.val (.int p1), .val (.int p2), .val (.int p3), .val (.int p4), .val (.ref b2), .val (.ref r10), .val (.int (1 : Int32)), .val (.ref b120), .val (.ref tA), .val (.int (own_off (p4 &&& (16 : Int32)))), .unset, .unset, .unset]) rfl ?_
          exact k)
      obtain ⟨T143, h143, X143, e143, E143, A143, D143, -, st143⟩ := newO X132 hx hZ hown (hw _ (List.mem_of_getElem? (i := 29) rfl)) (hw _ (List.mem_of_getElem? (i := 30) rfl)) (hw _ (List.mem_of_getElem? (i := 31) rfl)) e132 (g := (mkF m 145 #[.val (.int p1), .val (.int p2), .val (.int p3), .val (.int p4), .val (.ref b2), .val (.ref r10), .val (.int (1 : Int32)), .val (.ref b120), .val (.ref tA), .val (.int (own_off (p4 &&& (16 : Int32)))), .unset, .unset, .unset] [])) rfl (hb hby at_145) (by decide) (by decide)
      obtain ⟨b143, g143⟩ : ∃ z, z = h125.size := ⟨_, rfl⟩
      rw [← g143] at A143 D143 st143
      have g_b143 : n0 ≤ b143 := Nat.le_trans Z125 (Nat.le_of_eq g143.symm)
      have sz_b143 : h0.size ≤ b143 := Nat.le_trans Kp128.1 (Nat.le_of_eq g143.symm)
      have ne_b2_b143 : b2 ≠ b143 := Nat.ne_of_lt (Nat.lt_of_lt_of_le Vf126.lt (Nat.le_of_eq g143.symm))
      have ne_b120_b143 : b120 ≠ b143 := Nat.ne_of_lt (Nat.lt_of_lt_of_le Ef127.lt (Nat.le_of_eq g143.symm))
      have ne_tA_b143 : tA ≠ b143 := Nat.ne_of_lt (Nat.lt_of_lt_of_le EA.lt (Nat.le_of_eq g143.symm))
      have Vf144 := Vf126.ext E143
      have Ef145 := Ef127.ext E143
      have Vf146 := V130.ext E143
      have Ef147 := EA.ext E143
      have Ff148 := FA.ext E143
      have Z143 : n0 ≤ h143.size := Nat.le_trans Z125 E143.1
      have Kp149 : Keep h0 h143 [] := Kp128.ext E143
      have F_mPcr_b143 : Fld Z h143 b143 "com/example/votal/votal/log/LogRecord" "mPcr" "I" (.int (0 : Int32)) := D143 (Or.inr (hw _ (List.mem_of_getElem? (i := 37) rfl))) (ty := .int) (by decide)
      have F_mTemplateDigest_b143 : Fld Z h143 b143 "com/example/votal/votal/log/LogRecord" "mTemplateDigest" "[B" .null := D143 (Or.inr (hw _ (List.mem_of_getElem? (i := 39) rfl))) (ty := (.array .byte)) (by decide)
      have F_mTemplateName_b143 : Fld Z h143 b143 "com/example/votal/votal/log/LogRecord" "mTemplateName" "Ljava/lang/String;" .null := D143 (Or.inr (hw _ (List.mem_of_getElem? (i := 48) rfl))) (ty := (.object "java/lang/String")) (by decide)
      have F_mTemplate_b143 : Fld Z h143 b143 "com/example/votal/votal/log/LogRecord" "mTemplate" "Lcom/example/votal/votal/log/Template;" .null := D143 (Or.inr (hw _ (List.mem_of_getElem? (i := 50) rfl))) (ty := (.object "com/example/votal/votal/log/Template")) (by decide)
      have F_mName_b143 : Fld Z h143 b143 "com/example/votal/votal/log/LogRecord" "mName" "Ljava/lang/String;" .null := D143 (Or.inr (hw _ (List.mem_of_getElem? (i := 52) rfl))) (ty := (.object "java/lang/String")) (by decide)
      have F_mDigestAlgorithm_b143 : Fld Z h143 b143 "com/example/votal/votal/log/LogRecord" "mDigestAlgorithm" "Lcom/example/votal/votal/log/DigestAlgorithm;" .null := D143 (Or.inr (hw _ (List.mem_of_getElem? (i := 54) rfl))) (ty := (.object "com/example/votal/votal/log/DigestAlgorithm")) (by decide)
      have F_mDigest_b143 : Fld Z h143 b143 "com/example/votal/votal/log/LogRecord" "mDigest" "[B" .null := D143 (Or.inr (hw _ (List.mem_of_getElem? (i := 56) rfl))) (ty := (.array .byte)) (by decide)
      have F_mEventDataOffset_b143 : Fld Z h143 b143 "com/example/votal/votal/log/LogRecord" "mEventDataOffset" "I" (.int (0 : Int32)) := D143 (Or.inr (hw _ (List.mem_of_getElem? (i := 58) rfl))) (ty := .int) (by decide)
      have F_mTemplateData_b143 : Fld Z h143 b143 "com/example/votal/votal/log/LogRecord" "mTemplateData" "[B" .null := D143 (Or.inr (hw _ (List.mem_of_getElem? (i := 60) rfl))) (ty := (.array .byte)) (by decide)
      have F_mViolation_b143 : Fld Z h143 b143 "com/example/votal/votal/log/LogRecord" "mViolation" "Z" (.int (0 : Int32)) := D143 (Or.inr (hw _ (List.mem_of_getElem? (i := 65) rfl))) (ty := .boolean) (by decide)
      have ac150 : ∀ t, Steps p.tables e below (T143.setTop (mkF m 148 #[.val (.int p1), .val (.int p2), .val (.int p3), .val (.int p4), .val (.ref b2), .val (.ref r10), .val (.int (1 : Int32)), .val (.ref b120), .val (.ref tA), .val (.int (own_off (p4 &&& (16 : Int32)))), .unset, .unset, .unset] [(.ref b143)])) t → Steps p.tables e below (s₁.setTop (entryFrame m #[(.int p1), (.int p2), (.int p3), (.int p4)] maxLocals)) t := fun t k => ac142 t (st143 t k)
      have ac151 : ∀ t, Steps p.tables e below (T143.setTop (mkF m 164 #[.val (.int p1), .val (.int p2), .val (.int p3), .val (.int p4), .val (.ref b2), .val (.ref r10), .val (.int (1 : Int32)), .val (.ref b120), .val (.ref tA), .val (.int (own_off (p4 &&& (16 : Int32)))), .unset, .unset, .unset] [(.int (0 : Int32)), (.int (own_off (p4 &&& (16 : Int32)))), (.ref r10), (.ref b120), .null, (.ref tA), (.ref b2), (.int ((p4.toUInt32 >>> ((5 : Int32) &&& 31).toUInt32).toInt32)), (.ref b143), (.ref b143)])) t → Steps p.tables e below (s₁.setTop (entryFrame m #[(.int p1), (.int p2), (.int p3), (.int p4)] maxLocals)) t := fun t k => ac150 t (by
          show Steps p.tables e below (T143.setTop (mkF m 148 #[.val (.int p1), .val (.int p2), .val (.int p3), .val (.int p4), .val (.ref b2), .val (.ref r10), .val (.int (1 : Int32)), .val (.ref b120), .val (.ref tA), .val (.int (own_off (p4 &&& (16 : Int32)))), .unset, .unset, .unset] [(.ref b143)])) _
          refine XS.dup X143.here hx rfl (hb hby at_148) rfl rfl ?_
          show Steps p.tables e below (T143.setTop (mkF m 149 #[.val (.int p1), .val (.int p2), .val (.int p3), .val (.int p4), .val (.ref b2), .val (.ref r10), .val (.int (1 : Int32)), .val (.ref b120), .val (.ref tA), .val (.int (own_off (p4 &&& (16 : Int32)))), .unset, .unset, .unset] [(.ref b143), (.ref b143)])) _
          refine XS.iloadN X143.here hx rfl (hb hby at_149) rfl ?_
          show Steps p.tables e below (T143.setTop (mkF m 150 #[.val (.int p1), .val (.int p2), .val (.int p3), .val (.int p4), .val (.ref b2), .val (.ref r10), .val (.int (1 : Int32)), .val (.ref b120), .val (.ref tA), .val (.int (own_off (p4 &&& (16 : Int32)))), .unset, .unset, .unset] [(.int p4), (.ref b143), (.ref b143)])) _
          refine XS.iconst X143.here hx rfl (hb hby at_150) ?_
          show Steps p.tables e below (T143.setTop (mkF m 151 #[.val (.int p1), .val (.int p2), .val (.int p3), .val (.int p4), .val (.ref b2), .val (.ref r10), .val (.int (1 : Int32)), .val (.ref b120), .val (.ref tA), .val (.int (own_off (p4 &&& (16 : Int32)))), .unset, .unset, .unset] [(.int (5 : Int32)), (.int p4), (.ref b143), (.ref b143)])) _
          refine XS.iushr X143.here hx rfl (hb hby at_151) rfl ?_
          show Steps p.tables e below (T143.setTop (mkF m 152 #[.val (.int p1), .val (.int p2), .val (.int p3), .val (.int p4), .val (.ref b2), .val (.ref r10), .val (.int (1 : Int32)), .val (.ref b120), .val (.ref tA), .val (.int (own_off (p4 &&& (16 : Int32)))), .unset, .unset, .unset] [(.int ((p4.toUInt32 >>> ((5 : Int32) &&& 31).toUInt32).toInt32)), (.ref b143), (.ref b143)])) _
          refine XS.aload X143.here hx rfl (hb hby at_152) rfl rfl ?_
          show Steps p.tables e below (T143.setTop (mkF m 154 #[.val (.int p1), .val (.int p2), .val (.int p3), .val (.int p4), .val (.ref b2), .val (.ref r10), .val (.int (1 : Int32)), .val (.ref b120), .val (.ref tA), .val (.int (own_off (p4 &&& (16 : Int32)))), .unset, .unset, .unset] [(.ref b2), (.int ((p4.toUInt32 >>> ((5 : Int32) &&& 31).toUInt32).toInt32)), (.ref b143), (.ref b143)])) _
          refine XS.aload X143.here hx rfl (hb hby at_154) rfl rfl ?_
          show Steps p.tables e below (T143.setTop (mkF m 156 #[.val (.int p1), .val (.int p2), .val (.int p3), .val (.int p4), .val (.ref b2), .val (.ref r10), .val (.int (1 : Int32)), .val (.ref b120), .val (.ref tA), .val (.int (own_off (p4 &&& (16 : Int32)))), .unset, .unset, .unset] [(.ref tA), (.ref b2), (.int ((p4.toUInt32 >>> ((5 : Int32) &&& 31).toUInt32).toInt32)), (.ref b143), (.ref b143)])) _
          refine XS.aconstNull X143.here hx rfl (hb hby at_156) ?_
          show Steps p.tables e below (T143.setTop (mkF m 157 #[.val (.int p1), .val (.int p2), .val (.int p3), .val (.int p4), .val (.ref b2), .val (.ref r10), .val (.int (1 : Int32)), .val (.ref b120), .val (.ref tA), .val (.int (own_off (p4 &&& (16 : Int32)))), .unset, .unset, .unset] [.null, (.ref tA), (.ref b2), (.int ((p4.toUInt32 >>> ((5 : Int32) &&& 31).toUInt32).toInt32)), (.ref b143), (.ref b143)])) _
          refine XS.aload X143.here hx rfl (hb hby at_157) rfl rfl ?_
          show Steps p.tables e below (T143.setTop (mkF m 159 #[.val (.int p1), .val (.int p2), .val (.int p3), .val (.int p4), .val (.ref b2), .val (.ref r10), .val (.int (1 : Int32)), .val (.ref b120), .val (.ref tA), .val (.int (own_off (p4 &&& (16 : Int32)))), .unset, .unset, .unset] [(.ref b120), .null, (.ref tA), (.ref b2), (.int ((p4.toUInt32 >>> ((5 : Int32) &&& 31).toUInt32).toInt32)), (.ref b143), (.ref b143)])) _
          refine XS.aload X143.here hx rfl (hb hby at_159) rfl rfl ?_
          show Steps p.tables e below (T143.setTop (mkF m 161 #[.val (.int p1), .val (.int p2), .val (.int p3), .val (.int p4), .val (.ref b2), .val (.ref r10), .val (.int (1 : Int32)), .val (.ref b120), .val (.ref tA), .val (.int (own_off (p4 &&& (16 : Int32)))), .unset, .unset, .unset] [(.ref r10), (.ref b120), .null, (.ref tA), (.ref b2), (.int ((p4.toUInt32 >>> ((5 : Int32) &&& 31).toUInt32).toInt32)), (.ref b143), (.ref b143)])) _
          refine XS.iload X143.here hx rfl (hb hby at_161) rfl ?_
          show Steps p.tables e below (T143.setTop (mkF m 163 #[.val (.int p1), .val (.int p2), .val (.int p3), .val (.int p4), .val (.ref b2), .val (.ref r10), .val (.int (1 : Int32)), .val (.ref b120), .val (.ref tA), .val (.int (own_off (p4 &&& (16 : Int32)))), .unset, .unset, .unset] [(.int (own_off (p4 &&& (16 : Int32)))), (.ref r10), (.ref b120), .null, (.ref tA), (.ref b2), (.int ((p4.toUInt32 >>> ((5 : Int32) &&& 31).toUInt32).toInt32)), (.ref b143), (.ref b143)])) _
          refine XS.iconst X143.here hx rfl (hb hby at_163) ?_
          exact k)
      obtain ⟨T152, h152, k152, X152, e152, E152, A152, st152⟩ := newP X143 hx hZ (hw _ (List.mem_of_getElem? (i := 0) rfl)) e143 (g := (mkF m 164 #[.val (.int p1), .val (.int p2), .val (.int p3), .val (.int p4), .val (.ref b2), .val (.ref r10), .val (.int (1 : Int32)), .val (.ref b120), .val (.ref tA), .val (.int (own_off (p4 &&& (16 : Int32)))), .unset, .unset, .unset] [(.int (0 : Int32)), (.int (own_off (p4 &&& (16 : Int32)))), (.ref r10), (.ref b120), .null, (.ref tA), (.ref b2), (.int ((p4.toUInt32 >>> ((5 : Int32) &&& 31).toUInt32).toInt32)), (.ref b143), (.ref b143)])) rfl (hb hby at_164) rfl (by decide) (cap := 0) (by decide) (by decide) (by decide) (by decide)
      obtain ⟨b152, g152⟩ : ∃ z, z = h143.size := ⟨_, rfl⟩
      rw [← g152] at A152 st152
      have g_b152 : n0 ≤ b152 := Nat.le_trans Z143 (Nat.le_of_eq g152.symm)
      have sz_b152 : h0.size ≤ b152 := Nat.le_trans Kp149.1 (Nat.le_of_eq g152.symm)
      have ne_b2_b152 : b2 ≠ b152 := Nat.ne_of_lt (Nat.lt_of_lt_of_le Vf144.lt (Nat.le_of_eq g152.symm))
      have ne_b120_b152 : b120 ≠ b152 := Nat.ne_of_lt (Nat.lt_of_lt_of_le Ef145.lt (Nat.le_of_eq g152.symm))
      have ne_tA_b152 : tA ≠ b152 := Nat.ne_of_lt (Nat.lt_of_lt_of_le Ef147.lt (Nat.le_of_eq g152.symm))
      have ne_b143_b152 : b143 ≠ b152 := Nat.ne_of_lt (Nat.lt_of_lt_of_le A143.lt (Nat.le_of_eq g152.symm))
      have Vf153 := Vf144.ext E152
      have Ef154 := Ef145.ext E152
      have Vf155 := Vf146.ext E152
      have Ef156 := Ef147.ext E152
      have Ff157 := Ff148.ext E152
      have Ef158 := A143.ext E152
      have Ff159 := F_mPcr_b143.ext E152
      have Ff160 := F_mTemplateDigest_b143.ext E152
      have Ff161 := F_mTemplateName_b143.ext E152
      have Ff162 := F_mTemplate_b143.ext E152
      have Ff163 := F_mName_b143.ext E152
      have Ff164 := F_mDigestAlgorithm_b143.ext E152
      have Ff165 := F_mDigest_b143.ext E152
      have Ff166 := F_mEventDataOffset_b143.ext E152
      have Ff167 := F_mTemplateData_b143.ext E152
      have Ff168 := F_mViolation_b143.ext E152
      have Z152 : n0 ≤ h152.size := Nat.le_trans Z143 E152.1
      have Kp169 : Keep h0 h152 [] := Kp149.ext E152
      have V152 : own_Ar Z h152 b152 .byte 0 (fun _ => (.int (0 : Int32))) := own_Ar.new A152 rfl
      have ac170 : ∀ t, Steps p.tables e below (T152.setTop (mkF m 166 #[.val (.int p1), .val (.int p2), .val (.int p3), .val (.int p4), .val (.ref b2), .val (.ref r10), .val (.int (1 : Int32)), .val (.ref b120), .val (.ref tA), .val (.int (own_off (p4 &&& (16 : Int32)))), .unset, .unset, .unset] [(.ref b152), (.int (own_off (p4 &&& (16 : Int32)))), (.ref r10), (.ref b120), .null, (.ref tA), (.ref b2), (.int ((p4.toUInt32 >>> ((5 : Int32) &&& 31).toUInt32).toInt32)), (.ref b143), (.ref b143)])) t → Steps p.tables e below (s₁.setTop (entryFrame m #[(.int p1), (.int p2), (.int p3), (.int p4)] maxLocals)) t := fun t k => ac151 t (st152 t k)
      obtain ⟨_, _, ⟨T171, L171, k171, n171⟩, -, X171, ⟨Lc171, hQ171, l171, y171, z171⟩, st171⟩ := X152.specialBack hx (y := (⟨"com/example/votal/votal/log/LogRecord", "<init>", "(I[BLcom/example/votal/votal/log/Template;Lcom/example/votal/votal/log/DigestAlgorithm;[BLjava/lang/String;I[B)V"⟩ : MethodName)) rfl hown (mvT hZ (hw _ (List.mem_of_getElem? (i := 32) rfl))) (mvT hZ (hw _ (List.mem_of_getElem? (i := 33) rfl))) (mvT hZ (hw _ (List.mem_of_getElem? (i := 34) rfl))) (by decide) (backOf (W := 1) (rm6 l Z a0 hw [] b143 ((p4.toUInt32 >>> ((5 : Int32) &&& 31).toUInt32).toInt32) b2 tA b120 r10 (own_off (p4 &&& (16 : Int32))) b152 20 _ nA h152 n0 Z152 Ef158 g_b143 Vf153 (own_td _) (by decide) ne_b2_b143 Ff159 Ff160 Ff161 Ff162 Ff163 Ff164 Ff165 Ff166 Ff167 Ff168 Ef156 Ff157 ne_tA_b143) hZ (hw _ (List.mem_of_getElem? (i := 34) rfl)) (hw _ (List.mem_of_getElem? (i := 31) rfl)) (by decide) (by decide)) (g := (mkF m 166 #[.val (.int p1), .val (.int p2), .val (.int p3), .val (.int p4), .val (.ref b2), .val (.ref r10), .val (.int (1 : Int32)), .val (.ref b120), .val (.ref tA), .val (.int (own_off (p4 &&& (16 : Int32)))), .unset, .unset, .unset] [(.ref b152), (.int (own_off (p4 &&& (16 : Int32)))), (.ref r10), (.ref b120), .null, (.ref tA), (.ref b2), (.int ((p4.toUInt32 >>> ((5 : Int32) &&& 31).toUInt32).toInt32)), (.ref b143), (.ref b143)])) rfl (by rw [hml]; rfl) (Steps.refl _) (a := b143) (argsL := [(.int ((p4.toUInt32 >>> ((5 : Int32) &&& 31).toUInt32).toInt32)), (.ref b2), (.ref tA), .null, (.ref b120), (.ref r10), (.int (own_off (p4 &&& (16 : Int32)))), (.ref b152)]) (rest := [(.ref b143)]) (lenOf pd_5 rfl) rfl (by show 2 * 0 + _ ≤ _; exact Nat.le_of_eq rfl) (hb hby at_166) (fun _ _ => ⟨rfl, e152, (by decide : 6 + 0 ≤ _), (by decide : 36 + 0 ≤ _)⟩)
      dsimp only [Pt.U, Pt.locs, Pt.cells, Pt.slots] at X171 l171 y171 z171 st171 hQ171
      subst l171 y171 z171
      obtain ⟨rfl, N171q, K171q, Ex171, Fl171⟩ := hQ171
      have N171 := Fr.app N125 N171q
      have Vf172 := Vf153.keep K171q (ninS ne_b2_b143 nin0)
      have Ef173 := Ef154.keep K171q
      have Vf174 := Vf155.keep K171q (ninS ne_b120_b143 nin0)
      have Ef175 := Ef156.keep K171q
      have Ff176 := Ff157.keep K171q (ninS ne_tA_b143 nin0)
      have Ef177 := Ef158.keep K171q
      have Vf178 := V152.keep K171q (ninS (Ne.symm ne_b143_b152) nin0)
      have Z171 : n0 ≤ T171.heap.size := Nat.le_trans Z152 K171q.1
      have Kp179 : Keep h0 T171.heap [] := Kp169.trans K171q (allS (Or.inr sz_b143) all0)
      have ac180 : ∀ t, Steps p.tables e below (T171.setTop (mkF m 169 #[.val (.int p1), .val (.int p2), .val (.int p3), .val (.int p4), .val (.ref b2), .val (.ref r10), .val (.int (1 : Int32)), .val (.ref b120), .val (.ref tA), .val (.int (own_off (p4 &&& (16 : Int32)))), .unset, .unset, .unset] [(.ref b143)])) t → Steps p.tables e below (s₁.setTop (entryFrame m #[(.int p1), (.int p2), (.int p3), (.int p4)] maxLocals)) t := fun t k => ac170 t (st171.trans k)
      have ac181 : ∀ t, Steps p.tables e below (T171.setTop (mkF m 173 #[.val (.int p1), .val (.int p2), .val (.int p3), .val (.int p4), .val (.ref b2), .val (.ref r10), .val (.int (1 : Int32)), .val (.ref b120), .val (.ref tA), .val (.int (own_off (p4 &&& (16 : Int32)))), .val (.ref b143), .unset, .unset] [(.ref b143)])) t → Steps p.tables e below (s₁.setTop (entryFrame m #[(.int p1), (.int p2), (.int p3), (.int p4)] maxLocals)) t := fun t k => ac180 t (by
          show Steps p.tables e below (T171.setTop (mkF m 169 #[.val (.int p1), .val (.int p2), .val (.int p3), .val (.int p4), .val (.ref b2), .val (.ref r10), .val (.int (1 : Int32)), .val (.ref b120), .val (.ref tA), .val (.int (own_off (p4 &&& (16 : Int32)))), .unset, .unset, .unset] [(.ref b143)])) _
          refine XS.astore X171.here hx rfl (hb hby at_169) rfl rfl (l' := #[.val (.int p1), .val (.int p2), .val (.int p3), .val (.int p4), .val (.ref b2), .val (.ref r10), .val (.int (1 : Int32)), .val (.ref b120), .val (.ref tA), .val (.int (own_off (p4 &&& (16 : Int32)))), .val (.ref b143), .unset, .unset]) rfl ?_
          show Steps p.tables e below (T171.setTop (mkF m 171 #[.val (.int p1), .val (.int p2), .val (.int p3), .val (.int p4), .val (.ref b2), .val (.ref r10), .val (.int (1 : Int32)), .val (.ref b120), .val (.ref tA), .val (.int (own_off (p4 &&& (16 : Int32)))), .val (.ref b143), .unset, .unset] [])) _
          refine XS.aload X171.here hx rfl (hb hby at_171) rfl rfl ?_
          exact k)
      obtain ⟨cq182, kq182, q182a, q182b, q182c⟩ := isOf hZ rfl Ef177
      obtain ⟨_, _, ⟨T182, L182, k182, n182⟩, -, X182, ⟨Lc182, hQ182, l182, y182, z182⟩, st182⟩ := X171.virtualBack hx (y := (⟨"com/example/votal/votal/log/LogRecord", "getDigest", "()[B"⟩ : MethodName)) (z := (⟨"com/example/votal/votal/log/LogRecord", "getDigest", "()[B"⟩ : MethodName)) hown (mvT hZ (hw _ (List.mem_of_getElem? (i := 66) rfl))) (mvT hZ (hw _ (List.mem_of_getElem? (i := 67) rfl))) (notFace_of_selects (args := #[]) (mvT hZ (hw _ (List.mem_of_getElem? (i := 69) rfl)))) (mvT hZ (hw _ (List.mem_of_getElem? (i := 69) rfl))) (mvT hZ (hw _ (List.mem_of_getElem? (i := 68) rfl))) (by decide) (backOf (W := 0) (rm9c l Z a0 hw [] b143 b120 1 _ T171.heap n0 Z171 Fl171 Vf174 Ef173 (by decide)) hZ (hw _ (List.mem_of_getElem? (i := 70) rfl)) (hw _ (List.mem_of_getElem? (i := 31) rfl)) (by decide) (by decide)) q182a q182c (g := (mkF m 173 #[.val (.int p1), .val (.int p2), .val (.int p3), .val (.int p4), .val (.ref b2), .val (.ref r10), .val (.int (1 : Int32)), .val (.ref b120), .val (.ref tA), .val (.int (own_off (p4 &&& (16 : Int32)))), .val (.ref b143), .unset, .unset] [(.ref b143)])) rfl (by rw [hml]; rfl) (Steps.refl _) (argsL := []) (rest := []) (lenOf pd_8 rfl) rfl (by show 2 * 0 + _ ≤ _; exact Nat.le_of_eq rfl) (hb hby at_173) (fun _ _ => ⟨rfl, rfl, (by decide : 6 + 1 ≤ _), (by decide : 36 + 3 ≤ _)⟩)
      dsimp only [Pt.U, Pt.locs, Pt.cells, Pt.slots] at X182 l182 y182 z182 st182 hQ182
      subst l182 y182 z182
      obtain ⟨r182, rfl, N182q, K182q, sz182, Vr182⟩ := hQ182
      have N182 := Fr.app N171 N182q
      have Vf183 := Vf172.keep K182q nin0
      have Ef184 := Ef173.keep K182q
      have Vf185 := Vf174.keep K182q nin0
      have Ef186 := Ef175.keep K182q
      have Ff187 := Ff176.keep K182q nin0
      have Ef188 := Ef177.keep K182q
      have Vf189 := Vf178.keep K182q nin0
      have Ff190 := Fl171.keep K182q nin0
      have Z182 : n0 ≤ T182.heap.size := Nat.le_trans Z171 K182q.1
      have Kp191 : Keep h0 T182.heap [] := Kp179.trans K182q all0
      have g_r182 : n0 ≤ r182 := Nat.le_trans Z171 sz182
      have sz_r182 : h0.size ≤ r182 := Nat.le_trans Kp179.1 sz182
      have ne_b2_r182 : b2 ≠ r182 := Nat.ne_of_lt (Nat.lt_of_lt_of_le Vf172.lt sz182)
      have ne_b120_r182 : b120 ≠ r182 := Nat.ne_of_lt (Nat.lt_of_lt_of_le Ef173.lt sz182)
      have ne_tA_r182 : tA ≠ r182 := Nat.ne_of_lt (Nat.lt_of_lt_of_le Ef175.lt sz182)
      have ne_b143_r182 : b143 ≠ r182 := Nat.ne_of_lt (Nat.lt_of_lt_of_le Ef177.lt sz182)
      have ne_b152_r182 : b152 ≠ r182 := Nat.ne_of_lt (Nat.lt_of_lt_of_le Vf178.lt sz182)
      have ac192 : ∀ t, Steps p.tables e below (T182.setTop (mkF m 176 #[.val (.int p1), .val (.int p2), .val (.int p3), .val (.int p4), .val (.ref b2), .val (.ref r10), .val (.int (1 : Int32)), .val (.ref b120), .val (.ref tA), .val (.int (own_off (p4 &&& (16 : Int32)))), .val (.ref b143), .unset, .unset] [(.ref r182)])) t → Steps p.tables e below (s₁.setTop (entryFrame m #[(.int p1), (.int p2), (.int p3), (.int p4)] maxLocals)) t := fun t k => ac181 t (st182.trans k)
      have ac193 : ∀ t, Steps p.tables e below (T182.setTop (mkF m 196 #[.val (.int p1), .val (.int p2), .val (.int p3), .val (.int p4), .val (.ref b2), .val (.ref r10), .val (.int (1 : Int32)), .val (.ref b120), .val (.ref tA), .val (.int (own_off (p4 &&& (16 : Int32)))), .val (.ref b143), .val (.ref r182), .unset] [(.int p2), (.int p1), (.int (1 : Int32)), (.ref r182)])) t → Steps p.tables e below (s₁.setTop (entryFrame m #[(.int p1), (.int p2), (.int p3), (.int p4)] maxLocals)) t := fun t k => ac192 t (by
          show Steps p.tables e below (T182.setTop (mkF m 176 #[.val (.int p1), .val (.int p2), .val (.int p3), .val (.int p4), .val (.ref b2), .val (.ref r10), .val (.int (1 : Int32)), .val (.ref b120), .val (.ref tA), .val (.int (own_off (p4 &&& (16 : Int32)))), .val (.ref b143), .unset, .unset] [(.ref r182)])) _
          refine XS.astore X182.here hx rfl (hb hby at_176) rfl rfl (l' := #[.val (.int p1), .val (.int p2), .val (.int p3), .val (.int p4), .val (.ref b2), .val (.ref r10), .val (.int (1 : Int32)), .val (.ref b120), .val (.ref tA), .val (.int (own_off (p4 &&& (16 : Int32)))), .val (.ref b143), .val (.ref r182), .unset]) rfl ?_
          show Steps p.tables e below (T182.setTop (mkF m 178 #[.val (.int p1), .val (.int p2), .val (.int p3), .val (.int p4), .val (.ref b2), .val (.ref r10), .val (.int (1 : Int32)), .val (.ref b120), .val (.ref tA), .val (.int (own_off (p4 &&& (16 : Int32)))), .val (.ref b143), .val (.ref r182), .unset] [])) _
          refine XS.aload X182.here hx rfl (hb hby at_178) rfl rfl ?_
          show Steps p.tables e below (T182.setTop (mkF m 180 #[.val (.int p1), .val (.int p2), .val (.int p3), .val (.int p4), .val (.ref b2), .val (.ref r10), .val (.int (1 : Int32)), .val (.ref b120), .val (.ref tA), .val (.int (own_off (p4 &&& (16 : Int32)))), .val (.ref b143), .val (.ref r182), .unset] [(.ref r182)])) _
          refine XS.ifnullNo X182.here hx rfl (hb hby at_180) rfl ?_
          show Steps p.tables e below (T182.setTop (mkF m 183 #[.val (.int p1), .val (.int p2), .val (.int p3), .val (.int p4), .val (.ref b2), .val (.ref r10), .val (.int (1 : Int32)), .val (.ref b120), .val (.ref tA), .val (.int (own_off (p4 &&& (16 : Int32)))), .val (.ref b143), .val (.ref r182), .unset] [])) _
          refine XS.aload X182.here hx rfl (hb hby at_183) rfl rfl ?_
          show Steps p.tables e below (T182.setTop (mkF m 185 #[.val (.int p1), .val (.int p2), .val (.int p3), .val (.int p4), .val (.ref b2), .val (.ref r10), .val (.int (1 : Int32)), .val (.ref b120), .val (.ref tA), .val (.int (own_off (p4 &&& (16 : Int32)))), .val (.ref b143), .val (.ref r182), .unset] [(.ref r182)])) _
          refine XS.aload X182.here hx rfl (hb hby at_185) rfl rfl ?_
          show Steps p.tables e below (T182.setTop (mkF m 187 #[.val (.int p1), .val (.int p2), .val (.int p3), .val (.int p4), .val (.ref b2), .val (.ref r10), .val (.int (1 : Int32)), .val (.ref b120), .val (.ref tA), .val (.int (own_off (p4 &&& (16 : Int32)))), .val (.ref b143), .val (.ref r182), .unset] [(.ref b120), (.ref r182)])) _
          refine Jvm.RoadKit.acmp (g := (mkF m 187 #[.val (.int p1), .val (.int p2), .val (.int p3), .val (.int p4), .val (.ref b2), .val (.ref r10), .val (.int (1 : Int32)), .val (.ref b120), .val (.ref tA), .val (.int (own_off (p4 &&& (16 : Int32)))), .val (.ref b143), .val (.ref r182), .unset] [(.ref b120), (.ref r182)])) X182 hx rfl rfl rfl (pc0 := 187) (pc' := 190) (same := false) rfl (hb hby at_187) rfl (decide_eq_false fun q => (Ne.symm ne_b120_r182) (Value.ref.inj q)) (by decide) (by decide) ?_
          show Steps p.tables e below (T182.setTop (mkF m 190 #[.val (.int p1), .val (.int p2), .val (.int p3), .val (.int p4), .val (.ref b2), .val (.ref r10), .val (.int (1 : Int32)), .val (.ref b120), .val (.ref tA), .val (.int (own_off (p4 &&& (16 : Int32)))), .val (.ref b143), .val (.ref r182), .unset] [])) _
          refine XS.aload X182.here hx rfl (hb hby at_190) rfl rfl ?_
          show Steps p.tables e below (T182.setTop (mkF m 192 #[.val (.int p1), .val (.int p2), .val (.int p3), .val (.int p4), .val (.ref b2), .val (.ref r10), .val (.int (1 : Int32)), .val (.ref b120), .val (.ref tA), .val (.int (own_off (p4 &&& (16 : Int32)))), .val (.ref b143), .val (.ref r182), .unset] [(.ref r182)])) _
          refine XS.iload X182.here hx rfl (hb hby at_192) rfl ?_
          show Steps p.tables e below (T182.setTop (mkF m 194 #[.val (.int p1), .val (.int p2), .val (.int p3), .val (.int p4), .val (.ref b2), .val (.ref r10), .val (.int (1 : Int32)), .val (.ref b120), .val (.ref tA), .val (.int (own_off (p4 &&& (16 : Int32)))), .val (.ref b143), .val (.ref r182), .unset] [(.int (1 : Int32)), (.ref r182)])) _
          refine XS.iloadN X182.here hx rfl (hb hby at_194) rfl ?_
          show Steps p.tables e below (T182.setTop (mkF m 195 #[.val (.int p1), .val (.int p2), .val (.int p3), .val (.int p4), .val (.ref b2), .val (.ref r10), .val (.int (1 : Int32)), .val (.ref b120), .val (.ref tA), .val (.int (own_off (p4 &&& (16 : Int32)))), .val (.ref b143), .val (.ref r182), .unset] [(.int p1), (.int (1 : Int32)), (.ref r182)])) _
          refine XS.iloadN X182.here hx rfl (hb hby at_195) rfl ?_
          exact k)
      obtain ⟨_, _, ⟨T194, L194, k194, n194⟩, -, X194, ⟨Lc194, hQ194, l194, y194, z194⟩, st194⟩ := Jvm.LawKit.callS X182 hx (y := (⟨"com/example/votal/votal/log/LogRecordGetDigestPinLaw", "same", "([BIII)Z"⟩ : MethodName)) hown (mvT hZ (hw _ (List.mem_of_getElem? (i := 80) rfl))) (mvT hZ (hw _ (List.mem_of_getElem? (i := 81) rfl))) (mvT hZ (hw _ (List.mem_of_getElem? (i := 82) rfl))) (mvT hZ (hw _ (List.mem_of_getElem? (i := 83) rfl))) (by decide) (backOf (W := 0) (rm10_1 l Z a0 hw [] r182 (1 : Int32) p1 p2 _ T182.heap n0 Z182 Vr182 rfl rfl) hZ (hw _ (List.mem_of_getElem? (i := 83) rfl)) (hw _ (List.mem_of_getElem? (i := 82) rfl)) (by decide) (by decide)) (g := (mkF m 196 #[.val (.int p1), .val (.int p2), .val (.int p3), .val (.int p4), .val (.ref b2), .val (.ref r10), .val (.int (1 : Int32)), .val (.ref b120), .val (.ref tA), .val (.int (own_off (p4 &&& (16 : Int32)))), .val (.ref b143), .val (.ref r182), .unset] [(.int p2), (.int p1), (.int (1 : Int32)), (.ref r182)])) rfl (by rw [hml]; rfl) (argsL := [(.ref r182), (.int (1 : Int32)), (.int p1), (.int p2)]) (rest := []) (lenOf pd_10 rfl) rfl (by show 2 * 0 + _ ≤ _; exact Nat.le_of_eq rfl) (hb hby at_196) (fun _ _ => ⟨rfl, rfl, (by decide : 7 + 0 ≤ _), (by decide : 39 + 0 ≤ _)⟩)
      dsimp only [Pt.U, Pt.locs, Pt.cells, Pt.slots] at X194 l194 y194 z194 st194 hQ194
      subst l194 y194 z194
      obtain ⟨rfl, N194q, Qe194⟩ := hQ194
      have N194 := Fr.app N182 N194q
      have ac195 : ∀ t, Steps p.tables e below (T194.setTop (mkF m 199 #[.val (.int p1), .val (.int p2), .val (.int p3), .val (.int p4), .val (.ref b2), .val (.ref r10), .val (.int (1 : Int32)), .val (.ref b120), .val (.ref tA), .val (.int (own_off (p4 &&& (16 : Int32)))), .val (.ref b143), .val (.ref r182), .unset] [(.int (1 : Int32))])) t → Steps p.tables e below (s₁.setTop (entryFrame m #[(.int p1), (.int p2), (.int p3), (.int p4)] maxLocals)) t := fun t k => ac193 t (st194 t k)
      have ac196 : ∀ t, Steps p.tables e below (T194.setTop (mkF m 215 #[.val (.int p1), .val (.int p2), .val (.int p3), .val (.int p4), .val (.ref b2), .val (.ref r10), .val (.int (1 : Int32)), .val (.ref b120), .val (.ref tA), .val (.int (own_off (p4 &&& (16 : Int32)))), .val (.ref b143), .val (.ref r182), .unset] [(.int (0 : Int32)), (.ref r182), (.int (0 : Int32)), (.ref r182)])) t → Steps p.tables e below (s₁.setTop (entryFrame m #[(.int p1), (.int p2), (.int p3), (.int p4)] maxLocals)) t := fun t k => ac195 t (by
          show Steps p.tables e below (T194.setTop (mkF m 199 #[.val (.int p1), .val (.int p2), .val (.int p3), .val (.int p4), .val (.ref b2), .val (.ref r10), .val (.int (1 : Int32)), .val (.ref b120), .val (.ref tA), .val (.int (own_off (p4 &&& (16 : Int32)))), .val (.ref b143), .val (.ref r182), .unset] [(.int (1 : Int32))])) _
          refine XS.ifYes X194.here hx rfl (pc0 := 199) (pc' := 204) rfl (hb hby at_199) rfl ((if0 _ _).trans (feq (by decide)).2) (by decide) (by decide) ?_
          show Steps p.tables e below (T194.setTop (mkF m 204 #[.val (.int p1), .val (.int p2), .val (.int p3), .val (.int p4), .val (.ref b2), .val (.ref r10), .val (.int (1 : Int32)), .val (.ref b120), .val (.ref tA), .val (.int (own_off (p4 &&& (16 : Int32)))), .val (.ref b143), .val (.ref r182), .unset] [])) _
          refine XS.iload X194.here hx rfl (hb hby at_204) rfl ?_
          show Steps p.tables e below (T194.setTop (mkF m 206 #[.val (.int p1), .val (.int p2), .val (.int p3), .val (.int p4), .val (.ref b2), .val (.ref r10), .val (.int (1 : Int32)), .val (.ref b120), .val (.ref tA), .val (.int (own_off (p4 &&& (16 : Int32)))), .val (.ref b143), .val (.ref r182), .unset] [(.int (1 : Int32))])) _
          refine XS.ifNo X194.here hx rfl (hb hby at_206) rfl ((if0 _ _).trans (tlt (by decide)).2.2.2) ?_
          show Steps p.tables e below (T194.setTop (mkF m 209 #[.val (.int p1), .val (.int p2), .val (.int p3), .val (.int p4), .val (.ref b2), .val (.ref r10), .val (.int (1 : Int32)), .val (.ref b120), .val (.ref tA), .val (.int (own_off (p4 &&& (16 : Int32)))), .val (.ref b143), .val (.ref r182), .unset] [])) _
          refine XS.aload X194.here hx rfl (hb hby at_209) rfl rfl ?_
          show Steps p.tables e below (T194.setTop (mkF m 211 #[.val (.int p1), .val (.int p2), .val (.int p3), .val (.int p4), .val (.ref b2), .val (.ref r10), .val (.int (1 : Int32)), .val (.ref b120), .val (.ref tA), .val (.int (own_off (p4 &&& (16 : Int32)))), .val (.ref b143), .val (.ref r182), .unset] [(.ref r182)])) _
          refine XS.iconst X194.here hx rfl (hb hby at_211) ?_
          show Steps p.tables e below (T194.setTop (mkF m 212 #[.val (.int p1), .val (.int p2), .val (.int p3), .val (.int p4), .val (.ref b2), .val (.ref r10), .val (.int (1 : Int32)), .val (.ref b120), .val (.ref tA), .val (.int (own_off (p4 &&& (16 : Int32)))), .val (.ref b143), .val (.ref r182), .unset] [(.int (0 : Int32)), (.ref r182)])) _
          refine XS.aload X194.here hx rfl (hb hby at_212) rfl rfl ?_
          show Steps p.tables e below (T194.setTop (mkF m 214 #[.val (.int p1), .val (.int p2), .val (.int p3), .val (.int p4), .val (.ref b2), .val (.ref r10), .val (.int (1 : Int32)), .val (.ref b120), .val (.ref tA), .val (.int (own_off (p4 &&& (16 : Int32)))), .val (.ref b143), .val (.ref r182), .unset] [(.ref r182), (.int (0 : Int32)), (.ref r182)])) _
          refine XS.iconst X194.here hx rfl (hb hby at_214) ?_
          exact k)
      obtain ⟨cl197, Ac197, hin197, hat197⟩ := Vr182.at (j := (0 : Int32)) (i := 0) rfl (by decide)
      have ac198 : ∀ t, Steps p.tables e below (T194.setTop (mkF m 219 #[.val (.int p1), .val (.int p2), .val (.int p3), .val (.int p4), .val (.ref b2), .val (.ref r10), .val (.int (1 : Int32)), .val (.ref b120), .val (.ref tA), .val (.int (own_off (p4 &&& (16 : Int32)))), .val (.ref b143), .val (.ref r182), .unset] [(.int (((p1.toInt8.toInt32) + (1 : Int32)).toInt8.toInt32)), (.int (0 : Int32)), (.ref r182)])) t → Steps p.tables e below (s₁.setTop (entryFrame m #[(.int p1), (.int p2), (.int p3), (.int p4)] maxLocals)) t := fun t k => ac196 t (by
          show Steps p.tables e below (T194.setTop (mkF m 215 #[.val (.int p1), .val (.int p2), .val (.int p3), .val (.int p4), .val (.ref b2), .val (.ref r10), .val (.int (1 : Int32)), .val (.ref b120), .val (.ref tA), .val (.int (own_off (p4 &&& (16 : Int32)))), .val (.ref b143), .val (.ref r182), .unset] [(.int (0 : Int32)), (.ref r182), (.int (0 : Int32)), (.ref r182)])) _
          refine X194.baloadBytes hx (j := (0 : Int32)) (v := (.int (p1.toInt8.toInt32))) (by rw [Qe194]; exact Ac197.1) (State.isArrayOf_alike hZ.alike Ac197.2.1) Ac197.2.2 hin197 (hat197.trans (congrArg some rfl)) (g := (mkF m 215 #[.val (.int p1), .val (.int p2), .val (.int p3), .val (.int p4), .val (.ref b2), .val (.ref r10), .val (.int (1 : Int32)), .val (.ref b120), .val (.ref tA), .val (.int (own_off (p4 &&& (16 : Int32)))), .val (.ref b143), .val (.ref r182), .unset] [(.int (0 : Int32)), (.ref r182), (.int (0 : Int32)), (.ref r182)])) rfl rfl (hb hby at_215) _ ?_
          show Steps p.tables e below (T194.setTop (mkF m 216 #[.val (.int p1), .val (.int p2), .val (.int p3), .val (.int p4), .val (.ref b2), .val (.ref r10), .val (.int (1 : Int32)), .val (.ref b120), .val (.ref tA), .val (.int (own_off (p4 &&& (16 : Int32)))), .val (.ref b143), .val (.ref r182), .unset] [(.int (p1.toInt8.toInt32)), (.int (0 : Int32)), (.ref r182)])) _
          refine XS.iconst X194.here hx rfl (hb hby at_216) ?_
          show Steps p.tables e below (T194.setTop (mkF m 217 #[.val (.int p1), .val (.int p2), .val (.int p3), .val (.int p4), .val (.ref b2), .val (.ref r10), .val (.int (1 : Int32)), .val (.ref b120), .val (.ref tA), .val (.int (own_off (p4 &&& (16 : Int32)))), .val (.ref b143), .val (.ref r182), .unset] [(.int (1 : Int32)), (.int (p1.toInt8.toInt32)), (.int (0 : Int32)), (.ref r182)])) _
          refine XS.iadd X194.here hx rfl (hb hby at_217) rfl ?_
          show Steps p.tables e below (T194.setTop (mkF m 218 #[.val (.int p1), .val (.int p2), .val (.int p3), .val (.int p4), .val (.ref b2), .val (.ref r10), .val (.int (1 : Int32)), .val (.ref b120), .val (.ref tA), .val (.int (own_off (p4 &&& (16 : Int32)))), .val (.ref b143), .val (.ref r182), .unset] [(.int ((p1.toInt8.toInt32) + (1 : Int32))), (.int (0 : Int32)), (.ref r182)])) _
          refine XS.i2b X194.here hx rfl (hb hby at_218) rfl ?_
          exact k)
      obtain ⟨cl199, Ac199, hin199, -⟩ := Vr182.at (j := (0 : Int32)) (i := 0) rfl (by decide)
      obtain ⟨T199, h199, X199, e199, W199, st199⟩ := stB X194 hx hZ Qe194 Ac199 (j := (0 : Int32)) hin199 (g := (mkF m 219 #[.val (.int p1), .val (.int p2), .val (.int p3), .val (.int p4), .val (.ref b2), .val (.ref r10), .val (.int (1 : Int32)), .val (.ref b120), .val (.ref tA), .val (.int (own_off (p4 &&& (16 : Int32)))), .val (.ref b143), .val (.ref r182), .unset] [(.int (((p1.toInt8.toInt32) + (1 : Int32)).toInt8.toInt32)), (.int (0 : Int32)), (.ref r182)])) rfl rfl (hb hby at_219)
      have V199 := Vr182.set (i := 0) rfl W199 (fits_nar_byte _)
      have Vf200 := Vf183.other W199 ne_b2_r182
      have Ef201 := Ef184.wr W199
      have Vf202 := Vf185.other W199 ne_b120_r182
      have Ef203 := Ef186.wr W199
      have Ff204 := Ff187.other W199 (Or.inl ne_tA_r182)
      have Ef205 := Ef188.wr W199
      have Vf206 := Vf189.other W199 ne_b152_r182
      have Ff207 := Ff190.other W199 (Or.inl ne_b143_r182)
      have N199 := Fr.snoc X199 N194 g_r182
      have Z199 : n0 ≤ h199.size := Nat.le_trans Z182 (Keep.of_wr W199).1
      have Kp208 : Keep h0 h199 [] := Kp191.wr W199 (Or.inr sz_r182)
      have ac209 : ∀ t, Steps p.tables e below (T199.setTop (mkF m 220 #[.val (.int p1), .val (.int p2), .val (.int p3), .val (.int p4), .val (.ref b2), .val (.ref r10), .val (.int (1 : Int32)), .val (.ref b120), .val (.ref tA), .val (.int (own_off (p4 &&& (16 : Int32)))), .val (.ref b143), .val (.ref r182), .unset] [])) t → Steps p.tables e below (s₁.setTop (entryFrame m #[(.int p1), (.int p2), (.int p3), (.int p4)] maxLocals)) t := fun t k => ac198 t (st199 t k)
      have ac210 : ∀ t, Steps p.tables e below (T199.setTop (mkF m 222 #[.val (.int p1), .val (.int p2), .val (.int p3), .val (.int p4), .val (.ref b2), .val (.ref r10), .val (.int (1 : Int32)), .val (.ref b120), .val (.ref tA), .val (.int (own_off (p4 &&& (16 : Int32)))), .val (.ref b143), .val (.ref r182), .unset] [(.ref b143)])) t → Steps p.tables e below (s₁.setTop (entryFrame m #[(.int p1), (.int p2), (.int p3), (.int p4)] maxLocals)) t := fun t k => ac209 t (by
          show Steps p.tables e below (T199.setTop (mkF m 220 #[.val (.int p1), .val (.int p2), .val (.int p3), .val (.int p4), .val (.ref b2), .val (.ref r10), .val (.int (1 : Int32)), .val (.ref b120), .val (.ref tA), .val (.int (own_off (p4 &&& (16 : Int32)))), .val (.ref b143), .val (.ref r182), .unset] [])) _
          refine XS.aload X199.here hx rfl (hb hby at_220) rfl rfl ?_
          exact k)
      obtain ⟨cq211, kq211, q211a, q211b, q211c⟩ := isOf hZ e199 Ef205
      obtain ⟨_, _, ⟨T211, L211, k211, n211⟩, -, X211, ⟨Lc211, hQ211, l211, y211, z211⟩, st211⟩ := X199.virtualBack hx (y := (⟨"com/example/votal/votal/log/LogRecord", "getDigest", "()[B"⟩ : MethodName)) (z := (⟨"com/example/votal/votal/log/LogRecord", "getDigest", "()[B"⟩ : MethodName)) hown (mvT hZ (hw _ (List.mem_of_getElem? (i := 66) rfl))) (mvT hZ (hw _ (List.mem_of_getElem? (i := 67) rfl))) (notFace_of_selects (args := #[]) (mvT hZ (hw _ (List.mem_of_getElem? (i := 69) rfl)))) (mvT hZ (hw _ (List.mem_of_getElem? (i := 69) rfl))) (mvT hZ (hw _ (List.mem_of_getElem? (i := 68) rfl))) (by decide) (backOf (W := 0) (rm9c l Z a0 hw [] b143 b120 1 _ h199 n0 Z199 Ff207 Vf202 Ef201 (by decide)) hZ (hw _ (List.mem_of_getElem? (i := 70) rfl)) (hw _ (List.mem_of_getElem? (i := 31) rfl)) (by decide) (by decide)) q211a q211c (g := (mkF m 222 #[.val (.int p1), .val (.int p2), .val (.int p3), .val (.int p4), .val (.ref b2), .val (.ref r10), .val (.int (1 : Int32)), .val (.ref b120), .val (.ref tA), .val (.int (own_off (p4 &&& (16 : Int32)))), .val (.ref b143), .val (.ref r182), .unset] [(.ref b143)])) rfl (by rw [hml]; rfl) (Steps.refl _) (argsL := []) (rest := []) (lenOf pd_8 rfl) rfl (by show 2 * 0 + _ ≤ _; exact Nat.le_of_eq rfl) (hb hby at_222) (fun _ _ => ⟨rfl, e199, (by decide : 7 + 1 ≤ _), (by decide : 39 + 3 ≤ _)⟩)
      dsimp only [Pt.U, Pt.locs, Pt.cells, Pt.slots] at X211 l211 y211 z211 st211 hQ211
      subst l211 y211 z211
      obtain ⟨r211, rfl, N211q, K211q, sz211, Vr211⟩ := hQ211
      have N211 := Fr.app N199 N211q
      have Vf212 := Vf200.keep K211q nin0
      have Ef213 := Ef201.keep K211q
      have Vf214 := Vf202.keep K211q nin0
      have Ef215 := Ef203.keep K211q
      have Ff216 := Ff204.keep K211q nin0
      have Ef217 := Ef205.keep K211q
      have Vf218 := Vf206.keep K211q nin0
      have Ff219 := Ff207.keep K211q nin0
      have Vf220 := V199.keep K211q nin0
      have Z211 : n0 ≤ T211.heap.size := Nat.le_trans Z199 K211q.1
      have Kp221 : Keep h0 T211.heap [] := Kp208.trans K211q all0
      have g_r211 : n0 ≤ r211 := Nat.le_trans Z199 sz211
      have sz_r211 : h0.size ≤ r211 := Nat.le_trans Kp208.1 sz211
      have ne_b2_r211 : b2 ≠ r211 := Nat.ne_of_lt (Nat.lt_of_lt_of_le Vf200.lt sz211)
      have ne_b120_r211 : b120 ≠ r211 := Nat.ne_of_lt (Nat.lt_of_lt_of_le Ef201.lt sz211)
      have ne_tA_r211 : tA ≠ r211 := Nat.ne_of_lt (Nat.lt_of_lt_of_le Ef203.lt sz211)
      have ne_b143_r211 : b143 ≠ r211 := Nat.ne_of_lt (Nat.lt_of_lt_of_le Ef205.lt sz211)
      have ne_b152_r211 : b152 ≠ r211 := Nat.ne_of_lt (Nat.lt_of_lt_of_le Vf206.lt sz211)
      have ne_r182_r211 : r182 ≠ r211 := Nat.ne_of_lt (Nat.lt_of_lt_of_le V199.lt sz211)
      have ac222 : ∀ t, Steps p.tables e below (T211.setTop (mkF m 225 #[.val (.int p1), .val (.int p2), .val (.int p3), .val (.int p4), .val (.ref b2), .val (.ref r10), .val (.int (1 : Int32)), .val (.ref b120), .val (.ref tA), .val (.int (own_off (p4 &&& (16 : Int32)))), .val (.ref b143), .val (.ref r182), .unset] [(.ref r211)])) t → Steps p.tables e below (s₁.setTop (entryFrame m #[(.int p1), (.int p2), (.int p3), (.int p4)] maxLocals)) t := fun t k => ac210 t (st211.trans k)
      have ac223 : ∀ t, Steps p.tables e below (T211.setTop (mkF m 252 #[.val (.int p1), .val (.int p2), .val (.int p3), .val (.int p4), .val (.ref b2), .val (.ref r10), .val (.int (1 : Int32)), .val (.ref b120), .val (.ref tA), .val (.int (own_off (p4 &&& (16 : Int32)))), .val (.ref b143), .val (.ref r182), .val (.ref r211)] [(.int p2), (.int p1), (.int (1 : Int32)), (.ref r211)])) t → Steps p.tables e below (s₁.setTop (entryFrame m #[(.int p1), (.int p2), (.int p3), (.int p4)] maxLocals)) t := fun t k => ac222 t (by
          show Steps p.tables e below (T211.setTop (mkF m 225 #[.val (.int p1), .val (.int p2), .val (.int p3), .val (.int p4), .val (.ref b2), .val (.ref r10), .val (.int (1 : Int32)), .val (.ref b120), .val (.ref tA), .val (.int (own_off (p4 &&& (16 : Int32)))), .val (.ref b143), .val (.ref r182), .unset] [(.ref r211)])) _
          refine XS.astore X211.here hx rfl (hb hby at_225) rfl rfl (l' := #[.val (.int p1), .val (.int p2), .val (.int p3), .val (.int p4), .val (.ref b2), .val (.ref r10), .val (.int (1 : Int32)), .val (.ref b120), .val (.ref tA), .val (.int (own_off (p4 &&& (16 : Int32)))), .val (.ref b143), .val (.ref r182), .val (.ref r211)]) rfl ?_
          show Steps p.tables e below (T211.setTop (mkF m 227 #[.val (.int p1), .val (.int p2), .val (.int p3), .val (.int p4), .val (.ref b2), .val (.ref r10), .val (.int (1 : Int32)), .val (.ref b120), .val (.ref tA), .val (.int (own_off (p4 &&& (16 : Int32)))), .val (.ref b143), .val (.ref r182), .val (.ref r211)] [])) _
          refine XS.aload X211.here hx rfl (hb hby at_227) rfl rfl ?_
          show Steps p.tables e below (T211.setTop (mkF m 229 #[.val (.int p1), .val (.int p2), .val (.int p3), .val (.int p4), .val (.ref b2), .val (.ref r10), .val (.int (1 : Int32)), .val (.ref b120), .val (.ref tA), .val (.int (own_off (p4 &&& (16 : Int32)))), .val (.ref b143), .val (.ref r182), .val (.ref r211)] [(.ref r211)])) _
          refine XS.ifnullNo X211.here hx rfl (hb hby at_229) rfl ?_
          show Steps p.tables e below (T211.setTop (mkF m 232 #[.val (.int p1), .val (.int p2), .val (.int p3), .val (.int p4), .val (.ref b2), .val (.ref r10), .val (.int (1 : Int32)), .val (.ref b120), .val (.ref tA), .val (.int (own_off (p4 &&& (16 : Int32)))), .val (.ref b143), .val (.ref r182), .val (.ref r211)] [])) _
          refine XS.aload X211.here hx rfl (hb hby at_232) rfl rfl ?_
          show Steps p.tables e below (T211.setTop (mkF m 234 #[.val (.int p1), .val (.int p2), .val (.int p3), .val (.int p4), .val (.ref b2), .val (.ref r10), .val (.int (1 : Int32)), .val (.ref b120), .val (.ref tA), .val (.int (own_off (p4 &&& (16 : Int32)))), .val (.ref b143), .val (.ref r182), .val (.ref r211)] [(.ref r211)])) _
          refine XS.aload X211.here hx rfl (hb hby at_234) rfl rfl ?_
          show Steps p.tables e below (T211.setTop (mkF m 236 #[.val (.int p1), .val (.int p2), .val (.int p3), .val (.int p4), .val (.ref b2), .val (.ref r10), .val (.int (1 : Int32)), .val (.ref b120), .val (.ref tA), .val (.int (own_off (p4 &&& (16 : Int32)))), .val (.ref b143), .val (.ref r182), .val (.ref r211)] [(.ref r182), (.ref r211)])) _
          refine Jvm.RoadKit.acmp (g := (mkF m 236 #[.val (.int p1), .val (.int p2), .val (.int p3), .val (.int p4), .val (.ref b2), .val (.ref r10), .val (.int (1 : Int32)), .val (.ref b120), .val (.ref tA), .val (.int (own_off (p4 &&& (16 : Int32)))), .val (.ref b143), .val (.ref r182), .val (.ref r211)] [(.ref r182), (.ref r211)])) X211 hx rfl rfl rfl (pc0 := 236) (pc' := 239) (same := false) rfl (hb hby at_236) rfl (decide_eq_false fun q => (Ne.symm ne_r182_r211) (Value.ref.inj q)) (by decide) (by decide) ?_
          show Steps p.tables e below (T211.setTop (mkF m 239 #[.val (.int p1), .val (.int p2), .val (.int p3), .val (.int p4), .val (.ref b2), .val (.ref r10), .val (.int (1 : Int32)), .val (.ref b120), .val (.ref tA), .val (.int (own_off (p4 &&& (16 : Int32)))), .val (.ref b143), .val (.ref r182), .val (.ref r211)] [])) _
          refine XS.aload X211.here hx rfl (hb hby at_239) rfl rfl ?_
          show Steps p.tables e below (T211.setTop (mkF m 241 #[.val (.int p1), .val (.int p2), .val (.int p3), .val (.int p4), .val (.ref b2), .val (.ref r10), .val (.int (1 : Int32)), .val (.ref b120), .val (.ref tA), .val (.int (own_off (p4 &&& (16 : Int32)))), .val (.ref b143), .val (.ref r182), .val (.ref r211)] [(.ref r211)])) _
          refine XS.aload X211.here hx rfl (hb hby at_241) rfl rfl ?_
          show Steps p.tables e below (T211.setTop (mkF m 243 #[.val (.int p1), .val (.int p2), .val (.int p3), .val (.int p4), .val (.ref b2), .val (.ref r10), .val (.int (1 : Int32)), .val (.ref b120), .val (.ref tA), .val (.int (own_off (p4 &&& (16 : Int32)))), .val (.ref b143), .val (.ref r182), .val (.ref r211)] [(.ref b120), (.ref r211)])) _
          refine Jvm.RoadKit.acmp (g := (mkF m 243 #[.val (.int p1), .val (.int p2), .val (.int p3), .val (.int p4), .val (.ref b2), .val (.ref r10), .val (.int (1 : Int32)), .val (.ref b120), .val (.ref tA), .val (.int (own_off (p4 &&& (16 : Int32)))), .val (.ref b143), .val (.ref r182), .val (.ref r211)] [(.ref b120), (.ref r211)])) X211 hx rfl rfl rfl (pc0 := 243) (pc' := 246) (same := false) rfl (hb hby at_243) rfl (decide_eq_false fun q => (Ne.symm ne_b120_r211) (Value.ref.inj q)) (by decide) (by decide) ?_
          show Steps p.tables e below (T211.setTop (mkF m 246 #[.val (.int p1), .val (.int p2), .val (.int p3), .val (.int p4), .val (.ref b2), .val (.ref r10), .val (.int (1 : Int32)), .val (.ref b120), .val (.ref tA), .val (.int (own_off (p4 &&& (16 : Int32)))), .val (.ref b143), .val (.ref r182), .val (.ref r211)] [])) _
          refine XS.aload X211.here hx rfl (hb hby at_246) rfl rfl ?_
          show Steps p.tables e below (T211.setTop (mkF m 248 #[.val (.int p1), .val (.int p2), .val (.int p3), .val (.int p4), .val (.ref b2), .val (.ref r10), .val (.int (1 : Int32)), .val (.ref b120), .val (.ref tA), .val (.int (own_off (p4 &&& (16 : Int32)))), .val (.ref b143), .val (.ref r182), .val (.ref r211)] [(.ref r211)])) _
          refine XS.iload X211.here hx rfl (hb hby at_248) rfl ?_
          show Steps p.tables e below (T211.setTop (mkF m 250 #[.val (.int p1), .val (.int p2), .val (.int p3), .val (.int p4), .val (.ref b2), .val (.ref r10), .val (.int (1 : Int32)), .val (.ref b120), .val (.ref tA), .val (.int (own_off (p4 &&& (16 : Int32)))), .val (.ref b143), .val (.ref r182), .val (.ref r211)] [(.int (1 : Int32)), (.ref r211)])) _
          refine XS.iloadN X211.here hx rfl (hb hby at_250) rfl ?_
          show Steps p.tables e below (T211.setTop (mkF m 251 #[.val (.int p1), .val (.int p2), .val (.int p3), .val (.int p4), .val (.ref b2), .val (.ref r10), .val (.int (1 : Int32)), .val (.ref b120), .val (.ref tA), .val (.int (own_off (p4 &&& (16 : Int32)))), .val (.ref b143), .val (.ref r182), .val (.ref r211)] [(.int p1), (.int (1 : Int32)), (.ref r211)])) _
          refine XS.iloadN X211.here hx rfl (hb hby at_251) rfl ?_
          exact k)
      obtain ⟨_, _, ⟨T224, L224, k224, n224⟩, -, X224, ⟨Lc224, hQ224, l224, y224, z224⟩, st224⟩ := Jvm.LawKit.callS X211 hx (y := (⟨"com/example/votal/votal/log/LogRecordGetDigestPinLaw", "same", "([BIII)Z"⟩ : MethodName)) hown (mvT hZ (hw _ (List.mem_of_getElem? (i := 80) rfl))) (mvT hZ (hw _ (List.mem_of_getElem? (i := 81) rfl))) (mvT hZ (hw _ (List.mem_of_getElem? (i := 82) rfl))) (mvT hZ (hw _ (List.mem_of_getElem? (i := 83) rfl))) (by decide) (backOf (W := 0) (rm10_1 l Z a0 hw [] r211 (1 : Int32) p1 p2 _ T211.heap n0 Z211 Vr211 rfl rfl) hZ (hw _ (List.mem_of_getElem? (i := 83) rfl)) (hw _ (List.mem_of_getElem? (i := 82) rfl)) (by decide) (by decide)) (g := (mkF m 252 #[.val (.int p1), .val (.int p2), .val (.int p3), .val (.int p4), .val (.ref b2), .val (.ref r10), .val (.int (1 : Int32)), .val (.ref b120), .val (.ref tA), .val (.int (own_off (p4 &&& (16 : Int32)))), .val (.ref b143), .val (.ref r182), .val (.ref r211)] [(.int p2), (.int p1), (.int (1 : Int32)), (.ref r211)])) rfl (by rw [hml]; rfl) (argsL := [(.ref r211), (.int (1 : Int32)), (.int p1), (.int p2)]) (rest := []) (lenOf pd_10 rfl) rfl (by show 2 * 0 + _ ≤ _; exact Nat.le_of_eq rfl) (hb hby at_252) (fun _ _ => ⟨rfl, rfl, (by decide : 8 + 0 ≤ _), (by decide : 42 + 0 ≤ _)⟩)
      dsimp only [Pt.U, Pt.locs, Pt.cells, Pt.slots] at X224 l224 y224 z224 st224 hQ224
      subst l224 y224 z224
      obtain ⟨rfl, N224q, Qe224⟩ := hQ224
      have N224 := Fr.app N211 N224q
      have ac225 : ∀ t, Steps p.tables e below (T224.setTop (mkF m 255 #[.val (.int p1), .val (.int p2), .val (.int p3), .val (.int p4), .val (.ref b2), .val (.ref r10), .val (.int (1 : Int32)), .val (.ref b120), .val (.ref tA), .val (.int (own_off (p4 &&& (16 : Int32)))), .val (.ref b143), .val (.ref r182), .val (.ref r211)] [(.int (1 : Int32))])) t → Steps p.tables e below (s₁.setTop (entryFrame m #[(.int p1), (.int p2), (.int p3), (.int p4)] maxLocals)) t := fun t k => ac223 t (st224 t k)
      have ac226 : ∀ t, Steps p.tables e below (T224.setTop (mkF m 263 #[.val (.int p1), .val (.int p2), .val (.int p3), .val (.int p4), .val (.ref b2), .val (.ref r10), .val (.int (1 : Int32)), .val (.ref b120), .val (.ref tA), .val (.int (own_off (p4 &&& (16 : Int32)))), .val (.ref b143), .val (.ref r182), .val (.ref r211)] [(.int (1 : Int32))])) t → Steps p.tables e below (s₁.setTop (entryFrame m #[(.int p1), (.int p2), (.int p3), (.int p4)] maxLocals)) t := fun t k => ac225 t (by
          show Steps p.tables e below (T224.setTop (mkF m 255 #[.val (.int p1), .val (.int p2), .val (.int p3), .val (.int p4), .val (.ref b2), .val (.ref r10), .val (.int (1 : Int32)), .val (.ref b120), .val (.ref tA), .val (.int (own_off (p4 &&& (16 : Int32)))), .val (.ref b143), .val (.ref r182), .val (.ref r211)] [(.int (1 : Int32))])) _
          refine XS.ifNo X224.here hx rfl (hb hby at_255) rfl ((if0 _ _).trans (feq (by decide)).1) ?_
          show Steps p.tables e below (T224.setTop (mkF m 258 #[.val (.int p1), .val (.int p2), .val (.int p3), .val (.int p4), .val (.ref b2), .val (.ref r10), .val (.int (1 : Int32)), .val (.ref b120), .val (.ref tA), .val (.int (own_off (p4 &&& (16 : Int32)))), .val (.ref b143), .val (.ref r182), .val (.ref r211)] [])) _
          refine XS.iconst X224.here hx rfl (hb hby at_258) ?_
          show Steps p.tables e below (T224.setTop (mkF m 259 #[.val (.int p1), .val (.int p2), .val (.int p3), .val (.int p4), .val (.ref b2), .val (.ref r10), .val (.int (1 : Int32)), .val (.ref b120), .val (.ref tA), .val (.int (own_off (p4 &&& (16 : Int32)))), .val (.ref b143), .val (.ref r182), .val (.ref r211)] [(.int (1 : Int32))])) _
          refine XS.goto X224.here hx rfl (pc0 := 259) (pc' := 263) rfl (hb hby at_259) (by decide) (by decide) ?_
          exact k)
      obtain ⟨fs, hr, hrun, hended, hW, hsame⟩ := X224.leave (v := some (.int (1 : Int32))) (fun h => by rw [Bd.returns] at h; cases h) (BodyLoose.notSynchronized Bd)
      refine ⟨_, _, ac226 _ ?_, hrun, hended, _, _, rfl, ?_, ⟨_, rfl⟩, hW, hsame.mono (by decide) (by decide)⟩
      · show Steps p.tables e below (T224.setTop (mkF m 263 #[.val (.int p1), .val (.int p2), .val (.int p3), .val (.int p4), .val (.ref b2), .val (.ref r10), .val (.int (1 : Int32)), .val (.ref b120), .val (.ref tA), .val (.int (own_off (p4 &&& (16 : Int32)))), .val (.ref b143), .val (.ref r182), .val (.ref r211)] [(.int (1 : Int32))])) _
        exact retN X224 hx (t := .boolean) Bd.returns (by simp) (hb hby at_263) hr
      · show Q0 Z p1 p2 p3 p4 cs tN tB nN nB h0 n0 _ T224.heap _
        rw [Qe224]
        exact ⟨rfl, N224⟩
    ·
      rw [hl] at ac30
      have ac227 : ∀ t, Steps p.tables e below (T10.setTop (mkF m 71 #[.val (.int p1), .val (.int p2), .val (.int p3), .val (.int p4), .val (.ref b2), .val (.ref r10), .val (.int (2 : Int32)), .unset, .unset, .unset, .unset, .unset, .unset] [(.int (2 : Int32))])) t → Steps p.tables e below (s₁.setTop (entryFrame m #[(.int p1), (.int p2), (.int p3), (.int p4)] maxLocals)) t := fun t k => ac30 t (by
          show Steps p.tables e below (T10.setTop (mkF m 69 #[.val (.int p1), .val (.int p2), .val (.int p3), .val (.int p4), .val (.ref b2), .val (.ref r10), .val (.int (2 : Int32)), .unset, .unset, .unset, .unset, .unset, .unset] [])) _
          refine XS.iload X10.here hx rfl (hb hby at_69) rfl ?_
          exact k)
      obtain ⟨T228, h228, k228, X228, e228, E228, A228, Ea228, st228⟩ := newPE X10 hx hZ (hw _ (List.mem_of_getElem? (i := 0) rfl)) rfl (g := (mkF m 71 #[.val (.int p1), .val (.int p2), .val (.int p3), .val (.int p4), .val (.ref b2), .val (.ref r10), .val (.int (2 : Int32)), .unset, .unset, .unset, .unset, .unset, .unset] [(.int (2 : Int32))])) rfl (hb hby at_71) rfl (by decide) (cap := 2) (by decide) (by decide) (by decide) (by decide) (ad := "[B") (by decide)
      obtain ⟨b228, g228⟩ : ∃ z, z = T10.heap.size := ⟨_, rfl⟩
      rw [← g228] at A228 st228 Ea228
      have g_b228 : n0 ≤ b228 := Nat.le_trans Z10 (Nat.le_of_eq g228.symm)
      have sz_b228 : h0.size ≤ b228 := Nat.le_trans Kp12.1 (Nat.le_of_eq g228.symm)
      have ne_b2_b228 : b2 ≠ b228 := Nat.ne_of_lt (Nat.lt_of_lt_of_le Vf11.lt (Nat.le_of_eq g228.symm))
      have Vf229 := Vf11.ext E228
      have Z228 : n0 ≤ h228.size := Nat.le_trans Z10 E228.1
      have Kp230 : Keep h0 h228 [] := Kp12.ext E228
      have V228 : own_Ar Z h228 b228 .byte 2 (fun _ => (.int (0 : Int32))) := own_Ar.new A228 rfl
      have ac231 : ∀ t, Steps p.tables e below (T228.setTop (mkF m 73 #[.val (.int p1), .val (.int p2), .val (.int p3), .val (.int p4), .val (.ref b2), .val (.ref r10), .val (.int (2 : Int32)), .unset, .unset, .unset, .unset, .unset, .unset] [(.ref b228)])) t → Steps p.tables e below (s₁.setTop (entryFrame m #[(.int p1), (.int p2), (.int p3), (.int p4)] maxLocals)) t := fun t k => ac227 t (st228 t k)
      have ac232 : ∀ t, Steps p.tables e below (T228.setTop (mkF m 85 #[.val (.int p1), .val (.int p2), .val (.int p3), .val (.int p4), .val (.ref b2), .val (.ref r10), .val (.int (2 : Int32)), .val (.ref b228), .unset, .unset, .unset, .unset, .unset] [(.int (p1.toInt8.toInt32)), (.int (0 : Int32)), (.ref b228)])) t → Steps p.tables e below (s₁.setTop (entryFrame m #[(.int p1), (.int p2), (.int p3), (.int p4)] maxLocals)) t := fun t k => ac231 t (by
          show Steps p.tables e below (T228.setTop (mkF m 73 #[.val (.int p1), .val (.int p2), .val (.int p3), .val (.int p4), .val (.ref b2), .val (.ref r10), .val (.int (2 : Int32)), .unset, .unset, .unset, .unset, .unset, .unset] [(.ref b228)])) _
          refine XS.astore X228.here hx rfl (hb hby at_73) rfl rfl (l' := #[.val (.int p1), .val (.int p2), .val (.int p3), .val (.int p4), .val (.ref b2), .val (.ref r10), .val (.int (2 : Int32)), .val (.ref b228), .unset, .unset, .unset, .unset, .unset]) rfl ?_
          show Steps p.tables e below (T228.setTop (mkF m 75 #[.val (.int p1), .val (.int p2), .val (.int p3), .val (.int p4), .val (.ref b2), .val (.ref r10), .val (.int (2 : Int32)), .val (.ref b228), .unset, .unset, .unset, .unset, .unset] [])) _
          refine XS.iload X228.here hx rfl (hb hby at_75) rfl ?_
          show Steps p.tables e below (T228.setTop (mkF m 77 #[.val (.int p1), .val (.int p2), .val (.int p3), .val (.int p4), .val (.ref b2), .val (.ref r10), .val (.int (2 : Int32)), .val (.ref b228), .unset, .unset, .unset, .unset, .unset] [(.int (2 : Int32))])) _
          refine XS.ifNo X228.here hx rfl (hb hby at_77) rfl ((if0 _ _).trans (tlt (by decide)).2.2.2) ?_
          show Steps p.tables e below (T228.setTop (mkF m 80 #[.val (.int p1), .val (.int p2), .val (.int p3), .val (.int p4), .val (.ref b2), .val (.ref r10), .val (.int (2 : Int32)), .val (.ref b228), .unset, .unset, .unset, .unset, .unset] [])) _
          refine XS.aload X228.here hx rfl (hb hby at_80) rfl rfl ?_
          show Steps p.tables e below (T228.setTop (mkF m 82 #[.val (.int p1), .val (.int p2), .val (.int p3), .val (.int p4), .val (.ref b2), .val (.ref r10), .val (.int (2 : Int32)), .val (.ref b228), .unset, .unset, .unset, .unset, .unset] [(.ref b228)])) _
          refine XS.iconst X228.here hx rfl (hb hby at_82) ?_
          show Steps p.tables e below (T228.setTop (mkF m 83 #[.val (.int p1), .val (.int p2), .val (.int p3), .val (.int p4), .val (.ref b2), .val (.ref r10), .val (.int (2 : Int32)), .val (.ref b228), .unset, .unset, .unset, .unset, .unset] [(.int (0 : Int32)), (.ref b228)])) _
          refine XS.iloadN X228.here hx rfl (hb hby at_83) rfl ?_
          show Steps p.tables e below (T228.setTop (mkF m 84 #[.val (.int p1), .val (.int p2), .val (.int p3), .val (.int p4), .val (.ref b2), .val (.ref r10), .val (.int (2 : Int32)), .val (.ref b228), .unset, .unset, .unset, .unset, .unset] [(.int p1), (.int (0 : Int32)), (.ref b228)])) _
          refine XS.i2b X228.here hx rfl (hb hby at_84) rfl ?_
          exact k)
      obtain ⟨cl233, Ac233, hin233, -⟩ := V228.at (j := (0 : Int32)) (i := 0) rfl (by decide)
      obtain ⟨T233, h233, X233, e233, W233, st233⟩ := stB X228 hx hZ e228 Ac233 (j := (0 : Int32)) hin233 (g := (mkF m 85 #[.val (.int p1), .val (.int p2), .val (.int p3), .val (.int p4), .val (.ref b2), .val (.ref r10), .val (.int (2 : Int32)), .val (.ref b228), .unset, .unset, .unset, .unset, .unset] [(.int (p1.toInt8.toInt32)), (.int (0 : Int32)), (.ref b228)])) rfl rfl (hb hby at_85)
      have V233 := V228.set (i := 0) rfl W233 (fits_nar_byte _)
      have Vf234 := Vf229.other W233 ne_b2_b228
      have Ef235 := Ea228.wr W233
      have N233 := Fr.snoc X233 N10 g_b228
      have Z233 : n0 ≤ h233.size := Nat.le_trans Z228 (Keep.of_wr W233).1
      have Kp236 : Keep h0 h233 [] := Kp230.wr W233 (Or.inr sz_b228)
      have ac237 : ∀ t, Steps p.tables e below (T233.setTop (mkF m 86 #[.val (.int p1), .val (.int p2), .val (.int p3), .val (.int p4), .val (.ref b2), .val (.ref r10), .val (.int (2 : Int32)), .val (.ref b228), .unset, .unset, .unset, .unset, .unset] [])) t → Steps p.tables e below (s₁.setTop (entryFrame m #[(.int p1), (.int p2), (.int p3), (.int p4)] maxLocals)) t := fun t k => ac232 t (st233 t k)
      have ac238 : ∀ t, Steps p.tables e below (T233.setTop (mkF m 100 #[.val (.int p1), .val (.int p2), .val (.int p3), .val (.int p4), .val (.ref b2), .val (.ref r10), .val (.int (2 : Int32)), .val (.ref b228), .unset, .unset, .unset, .unset, .unset] [(.int (((p1.toUInt32 >>> ((8 : Int32) &&& 31).toUInt32).toInt32).toInt8.toInt32)), (.int (1 : Int32)), (.ref b228)])) t → Steps p.tables e below (s₁.setTop (entryFrame m #[(.int p1), (.int p2), (.int p3), (.int p4)] maxLocals)) t := fun t k => ac237 t (by
          show Steps p.tables e below (T233.setTop (mkF m 86 #[.val (.int p1), .val (.int p2), .val (.int p3), .val (.int p4), .val (.ref b2), .val (.ref r10), .val (.int (2 : Int32)), .val (.ref b228), .unset, .unset, .unset, .unset, .unset] [])) _
          refine XS.iload X233.here hx rfl (hb hby at_86) rfl ?_
          show Steps p.tables e below (T233.setTop (mkF m 88 #[.val (.int p1), .val (.int p2), .val (.int p3), .val (.int p4), .val (.ref b2), .val (.ref r10), .val (.int (2 : Int32)), .val (.ref b228), .unset, .unset, .unset, .unset, .unset] [(.int (2 : Int32))])) _
          refine XS.iconst X233.here hx rfl (hb hby at_88) ?_
          show Steps p.tables e below (T233.setTop (mkF m 89 #[.val (.int p1), .val (.int p2), .val (.int p3), .val (.int p4), .val (.ref b2), .val (.ref r10), .val (.int (2 : Int32)), .val (.ref b228), .unset, .unset, .unset, .unset, .unset] [(.int (1 : Int32)), (.int (2 : Int32))])) _
          refine XS.icmpNo X233.here hx rfl (hb hby at_89) rfl (tlt (by decide)).2.2.2 ?_
          show Steps p.tables e below (T233.setTop (mkF m 92 #[.val (.int p1), .val (.int p2), .val (.int p3), .val (.int p4), .val (.ref b2), .val (.ref r10), .val (.int (2 : Int32)), .val (.ref b228), .unset, .unset, .unset, .unset, .unset] [])) _
          refine XS.aload X233.here hx rfl (hb hby at_92) rfl rfl ?_
          show Steps p.tables e below (T233.setTop (mkF m 94 #[.val (.int p1), .val (.int p2), .val (.int p3), .val (.int p4), .val (.ref b2), .val (.ref r10), .val (.int (2 : Int32)), .val (.ref b228), .unset, .unset, .unset, .unset, .unset] [(.ref b228)])) _
          refine XS.iconst X233.here hx rfl (hb hby at_94) ?_
          show Steps p.tables e below (T233.setTop (mkF m 95 #[.val (.int p1), .val (.int p2), .val (.int p3), .val (.int p4), .val (.ref b2), .val (.ref r10), .val (.int (2 : Int32)), .val (.ref b228), .unset, .unset, .unset, .unset, .unset] [(.int (1 : Int32)), (.ref b228)])) _
          refine XS.iloadN X233.here hx rfl (hb hby at_95) rfl ?_
          show Steps p.tables e below (T233.setTop (mkF m 96 #[.val (.int p1), .val (.int p2), .val (.int p3), .val (.int p4), .val (.ref b2), .val (.ref r10), .val (.int (2 : Int32)), .val (.ref b228), .unset, .unset, .unset, .unset, .unset] [(.int p1), (.int (1 : Int32)), (.ref b228)])) _
          refine XS.bipush X233.here hx rfl (hb hby at_96) ?_
          show Steps p.tables e below (T233.setTop (mkF m 98 #[.val (.int p1), .val (.int p2), .val (.int p3), .val (.int p4), .val (.ref b2), .val (.ref r10), .val (.int (2 : Int32)), .val (.ref b228), .unset, .unset, .unset, .unset, .unset] [(.int (8 : Int32)), (.int p1), (.int (1 : Int32)), (.ref b228)])) _
          refine XS.iushr X233.here hx rfl (hb hby at_98) rfl ?_
          show Steps p.tables e below (T233.setTop (mkF m 99 #[.val (.int p1), .val (.int p2), .val (.int p3), .val (.int p4), .val (.ref b2), .val (.ref r10), .val (.int (2 : Int32)), .val (.ref b228), .unset, .unset, .unset, .unset, .unset] [(.int ((p1.toUInt32 >>> ((8 : Int32) &&& 31).toUInt32).toInt32)), (.int (1 : Int32)), (.ref b228)])) _
          refine XS.i2b X233.here hx rfl (hb hby at_99) rfl ?_
          exact k)
      obtain ⟨cl239, Ac239, hin239, -⟩ := V233.at (j := (1 : Int32)) (i := 1) rfl (by decide)
      obtain ⟨T239, h239, X239, e239, W239, st239⟩ := stB X233 hx hZ e233 Ac239 (j := (1 : Int32)) hin239 (g := (mkF m 100 #[.val (.int p1), .val (.int p2), .val (.int p3), .val (.int p4), .val (.ref b2), .val (.ref r10), .val (.int (2 : Int32)), .val (.ref b228), .unset, .unset, .unset, .unset, .unset] [(.int (((p1.toUInt32 >>> ((8 : Int32) &&& 31).toUInt32).toInt32).toInt8.toInt32)), (.int (1 : Int32)), (.ref b228)])) rfl rfl (hb hby at_100)
      have V239 := V233.set (i := 1) rfl W239 (fits_nar_byte _)
      have Vf240 := Vf234.other W239 ne_b2_b228
      have Ef241 := Ef235.wr W239
      have N239 := Fr.snoc X239 N233 g_b228
      have Z239 : n0 ≤ h239.size := Nat.le_trans Z233 (Keep.of_wr W239).1
      have Kp242 : Keep h0 h239 [] := Kp236.wr W239 (Or.inr sz_b228)
      have ac243 : ∀ t, Steps p.tables e below (T239.setTop (mkF m 101 #[.val (.int p1), .val (.int p2), .val (.int p3), .val (.int p4), .val (.ref b2), .val (.ref r10), .val (.int (2 : Int32)), .val (.ref b228), .unset, .unset, .unset, .unset, .unset] [])) t → Steps p.tables e below (s₁.setTop (entryFrame m #[(.int p1), (.int p2), (.int p3), (.int p4)] maxLocals)) t := fun t k => ac238 t (st239 t k)
      have V244 : own_Ar Z h239 b228 .byte 2 (fun k => if k = 0 then .int (p1.toInt8.toInt32) else if k = 1 then .int (((p1.toUInt32 >>> ((8 : Int32) &&& 31).toUInt32).toInt32).toInt8.toInt32) else .int 0) := V239.eq (fun k hk => match k, hk with | 0, _ => congrArg Value.int (own_b2 _) | 1, _ => congrArg Value.int (own_b2 _))
      have ac245 : ∀ t, Steps p.tables e below (T239.setTop (mkF m 117 #[.val (.int p1), .val (.int p2), .val (.int p3), .val (.int p4), .val (.ref b2), .val (.ref r10), .val (.int (2 : Int32)), .val (.ref b228), .unset, .unset, .unset, .unset, .unset] [(.int (p4 &&& (8 : Int32)))])) t → Steps p.tables e below (s₁.setTop (entryFrame m #[(.int p1), (.int p2), (.int p3), (.int p4)] maxLocals)) t := fun t k => ac243 t (by
          show Steps p.tables e below (T239.setTop (mkF m 101 #[.val (.int p1), .val (.int p2), .val (.int p3), .val (.int p4), .val (.ref b2), .val (.ref r10), .val (.int (2 : Int32)), .val (.ref b228), .unset, .unset, .unset, .unset, .unset] [])) _
          refine XS.iload X239.here hx rfl (hb hby at_101) rfl ?_
          show Steps p.tables e below (T239.setTop (mkF m 103 #[.val (.int p1), .val (.int p2), .val (.int p3), .val (.int p4), .val (.ref b2), .val (.ref r10), .val (.int (2 : Int32)), .val (.ref b228), .unset, .unset, .unset, .unset, .unset] [(.int (2 : Int32))])) _
          refine XS.iconst X239.here hx rfl (hb hby at_103) ?_
          show Steps p.tables e below (T239.setTop (mkF m 104 #[.val (.int p1), .val (.int p2), .val (.int p3), .val (.int p4), .val (.ref b2), .val (.ref r10), .val (.int (2 : Int32)), .val (.ref b228), .unset, .unset, .unset, .unset, .unset] [(.int (2 : Int32)), (.int (2 : Int32))])) _
          refine XS.icmpYes X239.here hx rfl (pc0 := 104) (pc' := 113) rfl (hb hby at_104) rfl (flt (by decide)).2.2.2 (by decide) (by decide) ?_
          show Steps p.tables e below (T239.setTop (mkF m 113 #[.val (.int p1), .val (.int p2), .val (.int p3), .val (.int p4), .val (.ref b2), .val (.ref r10), .val (.int (2 : Int32)), .val (.ref b228), .unset, .unset, .unset, .unset, .unset] [])) _
          refine XS.iloadN X239.here hx rfl (hb hby at_113) rfl ?_
          show Steps p.tables e below (T239.setTop (mkF m 114 #[.val (.int p1), .val (.int p2), .val (.int p3), .val (.int p4), .val (.ref b2), .val (.ref r10), .val (.int (2 : Int32)), .val (.ref b228), .unset, .unset, .unset, .unset, .unset] [(.int p4)])) _
          refine XS.bipush X239.here hx rfl (hb hby at_114) ?_
          show Steps p.tables e below (T239.setTop (mkF m 116 #[.val (.int p1), .val (.int p2), .val (.int p3), .val (.int p4), .val (.ref b2), .val (.ref r10), .val (.int (2 : Int32)), .val (.ref b228), .unset, .unset, .unset, .unset, .unset] [(.int (8 : Int32)), (.int p4)])) _
          refine XS.iand X239.here hx rfl (hb hby at_116) rfl ?_
          exact k)
      obtain ⟨T246, tA, nA, X246, e246, EA, FA, ltA, ac246_⟩ : ∃ (T' : State) (tA : Addr) (nA : Addr), own_StT X239 T' ∧ T'.heap = h239 ∧ Exa Z h239 tA "com/example/votal/votal/log/Template" ∧ Fld Z h239 tA "com/example/votal/votal/log/Template" "mName" "Ljava/lang/String;" (.ref nA) ∧ tA < h0.size ∧ ∀ t, Steps p.tables e below (T'.setTop (mkF m 129 #[.val (.int p1), .val (.int p2), .val (.int p3), .val (.int p4), .val (.ref b2), .val (.ref r10), .val (.int (2 : Int32)), .val (.ref b228), .unset, .unset, .unset, .unset, .unset] [(.ref tA)])) t → Steps p.tables e below (s₁.setTop (entryFrame m #[(.int p1), (.int p2), (.int p3), (.int p4)] maxLocals)) t := by
        by_cases hm : (p4 &&& (8 : Int32)) = (0 : Int32)
        ·
          have ac247 : ∀ t, Steps p.tables e below (T239.setTop (mkF m 126 #[.val (.int p1), .val (.int p2), .val (.int p3), .val (.int p4), .val (.ref b2), .val (.ref r10), .val (.int (2 : Int32)), .val (.ref b228), .unset, .unset, .unset, .unset, .unset] [])) t → Steps p.tables e below (s₁.setTop (entryFrame m #[(.int p1), (.int p2), (.int p3), (.int p4)] maxLocals)) t := fun t k => ac245 t (by
              show Steps p.tables e below (T239.setTop (mkF m 117 #[.val (.int p1), .val (.int p2), .val (.int p3), .val (.int p4), .val (.ref b2), .val (.ref r10), .val (.int (2 : Int32)), .val (.ref b228), .unset, .unset, .unset, .unset, .unset] [(.int (p4 &&& (8 : Int32)))])) _
              refine XS.ifYes X239.here hx rfl (pc0 := 117) (pc' := 126) rfl (hb hby at_117) rfl ((if0 _ _).trans (teq hm).1) (by decide) (by decide) ?_
              exact k)
          obtain ⟨T248, X248, e248, st248⟩ := getS2 X239 hx hZ hown (host := "") (Or.inl (hw _ (List.mem_of_getElem? (i := 26) rfl))) Via.refl e239 (own_Sta_keep SN Kp242) (g := (mkF m 126 #[.val (.int p1), .val (.int p2), .val (.int p3), .val (.int p4), .val (.ref b2), .val (.ref r10), .val (.int (2 : Int32)), .val (.ref b228), .unset, .unset, .unset, .unset, .unset] [])) rfl (hb hby at_126)
          have ac249 : ∀ t, Steps p.tables e below (T248.setTop (mkF m 129 #[.val (.int p1), .val (.int p2), .val (.int p3), .val (.int p4), .val (.ref b2), .val (.ref r10), .val (.int (2 : Int32)), .val (.ref b228), .unset, .unset, .unset, .unset, .unset] [(.ref tN)])) t → Steps p.tables e below (s₁.setTop (entryFrame m #[(.int p1), (.int p2), (.int p3), (.int p4)] maxLocals)) t := fun t k => ac247 t (st248 t k)
          exact ⟨T248, tN, nN, X248, e248, (EN.keep Kp242), (FN.keep Kp242 nin0), EN.lt, ac249⟩
        ·
          have ac250 : ∀ t, Steps p.tables e below (T239.setTop (mkF m 120 #[.val (.int p1), .val (.int p2), .val (.int p3), .val (.int p4), .val (.ref b2), .val (.ref r10), .val (.int (2 : Int32)), .val (.ref b228), .unset, .unset, .unset, .unset, .unset] [])) t → Steps p.tables e below (s₁.setTop (entryFrame m #[(.int p1), (.int p2), (.int p3), (.int p4)] maxLocals)) t := fun t k => ac245 t (by
              show Steps p.tables e below (T239.setTop (mkF m 117 #[.val (.int p1), .val (.int p2), .val (.int p3), .val (.int p4), .val (.ref b2), .val (.ref r10), .val (.int (2 : Int32)), .val (.ref b228), .unset, .unset, .unset, .unset, .unset] [(.int (p4 &&& (8 : Int32)))])) _
              refine XS.ifNo X239.here hx rfl (hb hby at_117) rfl ((if0 _ _).trans (feq hm).1) ?_
              exact k)
          obtain ⟨T251, X251, e251, st251⟩ := getS2 X239 hx hZ hown (host := "") (Or.inl (hw _ (List.mem_of_getElem? (i := 87) rfl))) Via.refl e239 (own_Sta_keep SB Kp242) (g := (mkF m 120 #[.val (.int p1), .val (.int p2), .val (.int p3), .val (.int p4), .val (.ref b2), .val (.ref r10), .val (.int (2 : Int32)), .val (.ref b228), .unset, .unset, .unset, .unset, .unset] [])) rfl (hb hby at_120)
          have ac252 : ∀ t, Steps p.tables e below (T251.setTop (mkF m 123 #[.val (.int p1), .val (.int p2), .val (.int p3), .val (.int p4), .val (.ref b2), .val (.ref r10), .val (.int (2 : Int32)), .val (.ref b228), .unset, .unset, .unset, .unset, .unset] [(.ref tB)])) t → Steps p.tables e below (s₁.setTop (entryFrame m #[(.int p1), (.int p2), (.int p3), (.int p4)] maxLocals)) t := fun t k => ac250 t (st251 t k)
          have ac253 : ∀ t, Steps p.tables e below (T251.setTop (mkF m 129 #[.val (.int p1), .val (.int p2), .val (.int p3), .val (.int p4), .val (.ref b2), .val (.ref r10), .val (.int (2 : Int32)), .val (.ref b228), .unset, .unset, .unset, .unset, .unset] [(.ref tB)])) t → Steps p.tables e below (s₁.setTop (entryFrame m #[(.int p1), (.int p2), (.int p3), (.int p4)] maxLocals)) t := fun t k => ac252 t (by
              show Steps p.tables e below (T251.setTop (mkF m 123 #[.val (.int p1), .val (.int p2), .val (.int p3), .val (.int p4), .val (.ref b2), .val (.ref r10), .val (.int (2 : Int32)), .val (.ref b228), .unset, .unset, .unset, .unset, .unset] [(.ref tB)])) _
              refine XS.goto X251.here hx rfl (pc0 := 123) (pc' := 129) rfl (hb hby at_123) (by decide) (by decide) ?_
              exact k)
          exact ⟨T251, tB, nB, X251, e251, (EB.keep Kp242), (FB.keep Kp242 nin0), EB.lt, ac253⟩
      have ac254 : ∀ t, Steps p.tables e below (T246.setTop (mkF m 135 #[.val (.int p1), .val (.int p2), .val (.int p3), .val (.int p4), .val (.ref b2), .val (.ref r10), .val (.int (2 : Int32)), .val (.ref b228), .val (.ref tA), .unset, .unset, .unset, .unset] [(.int (p4 &&& (16 : Int32)))])) t → Steps p.tables e below (s₁.setTop (entryFrame m #[(.int p1), (.int p2), (.int p3), (.int p4)] maxLocals)) t := fun t k => ac246_ t (by
          show Steps p.tables e below (T246.setTop (mkF m 129 #[.val (.int p1), .val (.int p2), .val (.int p3), .val (.int p4), .val (.ref b2), .val (.ref r10), .val (.int (2 : Int32)), .val (.ref b228), .unset, .unset, .unset, .unset, .unset] [(.ref tA)])) _
          refine XS.astore X246.here hx rfl (hb hby at_129) rfl rfl (l' := #[.val (.int p1), .val (.int p2), .val (.int p3), .val (.int p4), .val (.ref b2), .val (.ref r10), .val (.int (2 : Int32)), .val (.ref b228), .val (.ref tA), .unset, .unset, .unset, .unset]) rfl ?_
          show Steps p.tables e below (T246.setTop (mkF m 131 #[.val (.int p1), .val (.int p2), .val (.int p3), .val (.int p4), .val (.ref b2), .val (.ref r10), .val (.int (2 : Int32)), .val (.ref b228), .val (.ref tA), .unset, .unset, .unset, .unset] [])) _
          refine XS.iloadN X246.here hx rfl (hb hby at_131) rfl ?_
          show Steps p.tables e below (T246.setTop (mkF m 132 #[.val (.int p1), .val (.int p2), .val (.int p3), .val (.int p4), .val (.ref b2), .val (.ref r10), .val (.int (2 : Int32)), .val (.ref b228), .val (.ref tA), .unset, .unset, .unset, .unset] [(.int p4)])) _
          refine XS.bipush X246.here hx rfl (hb hby at_132) ?_
          show Steps p.tables e below (T246.setTop (mkF m 134 #[.val (.int p1), .val (.int p2), .val (.int p3), .val (.int p4), .val (.ref b2), .val (.ref r10), .val (.int (2 : Int32)), .val (.ref b228), .val (.ref tA), .unset, .unset, .unset, .unset] [(.int (16 : Int32)), (.int p4)])) _
          refine XS.iand X246.here hx rfl (hb hby at_134) rfl ?_
          exact k)
      have ac255 : ∀ t, Steps p.tables e below (T246.setTop (mkF m 143 #[.val (.int p1), .val (.int p2), .val (.int p3), .val (.int p4), .val (.ref b2), .val (.ref r10), .val (.int (2 : Int32)), .val (.ref b228), .val (.ref tA), .unset, .unset, .unset, .unset] [(.int (own_off (p4 &&& (16 : Int32))))])) t → Steps p.tables e below (s₁.setTop (entryFrame m #[(.int p1), (.int p2), (.int p3), (.int p4)] maxLocals)) t := fun t k => ac254 t (by
          by_cases hm : (p4 &&& (16 : Int32)) = (0 : Int32)
          ·
            show Steps p.tables e below (T246.setTop (mkF m 135 #[.val (.int p1), .val (.int p2), .val (.int p3), .val (.int p4), .val (.ref b2), .val (.ref r10), .val (.int (2 : Int32)), .val (.ref b228), .val (.ref tA), .unset, .unset, .unset, .unset] [(.int (p4 &&& (16 : Int32)))])) _
            refine XS.ifYes X246.here hx rfl (pc0 := 135) (pc' := 142) rfl (hb hby at_135) rfl ((if0 _ _).trans (teq hm).1) (by decide) (by decide) ?_
            show Steps p.tables e below (T246.setTop (mkF m 142 #[.val (.int p1), .val (.int p2), .val (.int p3), .val (.int p4), .val (.ref b2), .val (.ref r10), .val (.int (2 : Int32)), .val (.ref b228), .val (.ref tA), .unset, .unset, .unset, .unset] [])) _
            refine XS.iconst X246.here hx rfl (hb hby at_142) ?_
            rw [own_off_0 hm] at k; exact k
          ·
            show Steps p.tables e below (T246.setTop (mkF m 135 #[.val (.int p1), .val (.int p2), .val (.int p3), .val (.int p4), .val (.ref b2), .val (.ref r10), .val (.int (2 : Int32)), .val (.ref b228), .val (.ref tA), .unset, .unset, .unset, .unset] [(.int (p4 &&& (16 : Int32)))])) _
            refine XS.ifNo X246.here hx rfl (hb hby at_135) rfl ((if0 _ _).trans (feq hm).1) ?_
            show Steps p.tables e below (T246.setTop (mkF m 138 #[.val (.int p1), .val (.int p2), .val (.int p3), .val (.int p4), .val (.ref b2), .val (.ref r10), .val (.int (2 : Int32)), .val (.ref b228), .val (.ref tA), .unset, .unset, .unset, .unset] [])) _
            refine XS.iconst X246.here hx rfl (hb hby at_138) ?_
            show Steps p.tables e below (T246.setTop (mkF m 139 #[.val (.int p1), .val (.int p2), .val (.int p3), .val (.int p4), .val (.ref b2), .val (.ref r10), .val (.int (2 : Int32)), .val (.ref b228), .val (.ref tA), .unset, .unset, .unset, .unset] [(.int (-1 : Int32))])) _
            refine XS.goto X246.here hx rfl (pc0 := 139) (pc' := 143) rfl (hb hby at_139) (by decide) (by decide) ?_
            rw [own_off_1 hm] at k; exact k)
      have ac256 : ∀ t, Steps p.tables e below (T246.setTop (mkF m 145 #[.val (.int p1), .val (.int p2), .val (.int p3), .val (.int p4), .val (.ref b2), .val (.ref r10), .val (.int (2 : Int32)), .val (.ref b228), .val (.ref tA), .val (.int (own_off (p4 &&& (16 : Int32)))), .unset, .unset, .unset] [])) t → Steps p.tables e below (s₁.setTop (entryFrame m #[(.int p1), (.int p2), (.int p3), (.int p4)] maxLocals)) t := fun t k => ac255 t (by
          show Steps p.tables e below (T246.setTop (mkF m 143 #[.val (.int p1), .val (.int p2), .val (.int p3), .val (.int p4), .val (.ref b2), .val (.ref r10), .val (.int (2 : Int32)), .val (.ref b228), .val (.ref tA), .unset, .unset, .unset, .unset] [(.int (own_off (p4 &&& (16 : Int32))))])) _
          refine XS.istore X246.here hx rfl (hb hby at_143) rfl (l' := #[.val (.int p1), .val (.int p2), .val (.int p3), .val (.int p4), .val (.ref b2), .val (.ref r10), .val (.int (2 : Int32)), .val (.ref b228), .val (.ref tA), .val (.int (own_off (p4 &&& (16 : Int32)))), .unset, .unset, .unset]) rfl ?_
          exact k)
      obtain ⟨T257, h257, X257, e257, E257, A257, D257, -, st257⟩ := newO X246 hx hZ hown (hw _ (List.mem_of_getElem? (i := 29) rfl)) (hw _ (List.mem_of_getElem? (i := 30) rfl)) (hw _ (List.mem_of_getElem? (i := 31) rfl)) e246 (g := (mkF m 145 #[.val (.int p1), .val (.int p2), .val (.int p3), .val (.int p4), .val (.ref b2), .val (.ref r10), .val (.int (2 : Int32)), .val (.ref b228), .val (.ref tA), .val (.int (own_off (p4 &&& (16 : Int32)))), .unset, .unset, .unset] [])) rfl (hb hby at_145) (by decide) (by decide)
      obtain ⟨b257, g257⟩ : ∃ z, z = h239.size := ⟨_, rfl⟩
      rw [← g257] at A257 D257 st257
      have g_b257 : n0 ≤ b257 := Nat.le_trans Z239 (Nat.le_of_eq g257.symm)
      have sz_b257 : h0.size ≤ b257 := Nat.le_trans Kp242.1 (Nat.le_of_eq g257.symm)
      have ne_b2_b257 : b2 ≠ b257 := Nat.ne_of_lt (Nat.lt_of_lt_of_le Vf240.lt (Nat.le_of_eq g257.symm))
      have ne_b228_b257 : b228 ≠ b257 := Nat.ne_of_lt (Nat.lt_of_lt_of_le Ef241.lt (Nat.le_of_eq g257.symm))
      have ne_tA_b257 : tA ≠ b257 := Nat.ne_of_lt (Nat.lt_of_lt_of_le EA.lt (Nat.le_of_eq g257.symm))
      have Vf258 := Vf240.ext E257
      have Ef259 := Ef241.ext E257
      have Vf260 := V244.ext E257
      have Ef261 := EA.ext E257
      have Ff262 := FA.ext E257
      have Z257 : n0 ≤ h257.size := Nat.le_trans Z239 E257.1
      have Kp263 : Keep h0 h257 [] := Kp242.ext E257
      have F_mPcr_b257 : Fld Z h257 b257 "com/example/votal/votal/log/LogRecord" "mPcr" "I" (.int (0 : Int32)) := D257 (Or.inr (hw _ (List.mem_of_getElem? (i := 37) rfl))) (ty := .int) (by decide)
      have F_mTemplateDigest_b257 : Fld Z h257 b257 "com/example/votal/votal/log/LogRecord" "mTemplateDigest" "[B" .null := D257 (Or.inr (hw _ (List.mem_of_getElem? (i := 39) rfl))) (ty := (.array .byte)) (by decide)
      have F_mTemplateName_b257 : Fld Z h257 b257 "com/example/votal/votal/log/LogRecord" "mTemplateName" "Ljava/lang/String;" .null := D257 (Or.inr (hw _ (List.mem_of_getElem? (i := 48) rfl))) (ty := (.object "java/lang/String")) (by decide)
      have F_mTemplate_b257 : Fld Z h257 b257 "com/example/votal/votal/log/LogRecord" "mTemplate" "Lcom/example/votal/votal/log/Template;" .null := D257 (Or.inr (hw _ (List.mem_of_getElem? (i := 50) rfl))) (ty := (.object "com/example/votal/votal/log/Template")) (by decide)
      have F_mName_b257 : Fld Z h257 b257 "com/example/votal/votal/log/LogRecord" "mName" "Ljava/lang/String;" .null := D257 (Or.inr (hw _ (List.mem_of_getElem? (i := 52) rfl))) (ty := (.object "java/lang/String")) (by decide)
      have F_mDigestAlgorithm_b257 : Fld Z h257 b257 "com/example/votal/votal/log/LogRecord" "mDigestAlgorithm" "Lcom/example/votal/votal/log/DigestAlgorithm;" .null := D257 (Or.inr (hw _ (List.mem_of_getElem? (i := 54) rfl))) (ty := (.object "com/example/votal/votal/log/DigestAlgorithm")) (by decide)
      have F_mDigest_b257 : Fld Z h257 b257 "com/example/votal/votal/log/LogRecord" "mDigest" "[B" .null := D257 (Or.inr (hw _ (List.mem_of_getElem? (i := 56) rfl))) (ty := (.array .byte)) (by decide)
      have F_mEventDataOffset_b257 : Fld Z h257 b257 "com/example/votal/votal/log/LogRecord" "mEventDataOffset" "I" (.int (0 : Int32)) := D257 (Or.inr (hw _ (List.mem_of_getElem? (i := 58) rfl))) (ty := .int) (by decide)
      have F_mTemplateData_b257 : Fld Z h257 b257 "com/example/votal/votal/log/LogRecord" "mTemplateData" "[B" .null := D257 (Or.inr (hw _ (List.mem_of_getElem? (i := 60) rfl))) (ty := (.array .byte)) (by decide)
      have F_mViolation_b257 : Fld Z h257 b257 "com/example/votal/votal/log/LogRecord" "mViolation" "Z" (.int (0 : Int32)) := D257 (Or.inr (hw _ (List.mem_of_getElem? (i := 65) rfl))) (ty := .boolean) (by decide)
      have ac264 : ∀ t, Steps p.tables e below (T257.setTop (mkF m 148 #[.val (.int p1), .val (.int p2), .val (.int p3), .val (.int p4), .val (.ref b2), .val (.ref r10), .val (.int (2 : Int32)), .val (.ref b228), .val (.ref tA), .val (.int (own_off (p4 &&& (16 : Int32)))), .unset, .unset, .unset] [(.ref b257)])) t → Steps p.tables e below (s₁.setTop (entryFrame m #[(.int p1), (.int p2), (.int p3), (.int p4)] maxLocals)) t := fun t k => ac256 t (st257 t k)
      have ac265 : ∀ t, Steps p.tables e below (T257.setTop (mkF m 164 #[.val (.int p1), .val (.int p2), .val (.int p3), .val (.int p4), .val (.ref b2), .val (.ref r10), .val (.int (2 : Int32)), .val (.ref b228), .val (.ref tA), .val (.int (own_off (p4 &&& (16 : Int32)))), .unset, .unset, .unset] [(.int (0 : Int32)), (.int (own_off (p4 &&& (16 : Int32)))), (.ref r10), (.ref b228), .null, (.ref tA), (.ref b2), (.int ((p4.toUInt32 >>> ((5 : Int32) &&& 31).toUInt32).toInt32)), (.ref b257), (.ref b257)])) t → Steps p.tables e below (s₁.setTop (entryFrame m #[(.int p1), (.int p2), (.int p3), (.int p4)] maxLocals)) t := fun t k => ac264 t (by
          show Steps p.tables e below (T257.setTop (mkF m 148 #[.val (.int p1), .val (.int p2), .val (.int p3), .val (.int p4), .val (.ref b2), .val (.ref r10), .val (.int (2 : Int32)), .val (.ref b228), .val (.ref tA), .val (.int (own_off (p4 &&& (16 : Int32)))), .unset, .unset, .unset] [(.ref b257)])) _
          refine XS.dup X257.here hx rfl (hb hby at_148) rfl rfl ?_
          show Steps p.tables e below (T257.setTop (mkF m 149 #[.val (.int p1), .val (.int p2), .val (.int p3), .val (.int p4), .val (.ref b2), .val (.ref r10), .val (.int (2 : Int32)), .val (.ref b228), .val (.ref tA), .val (.int (own_off (p4 &&& (16 : Int32)))), .unset, .unset, .unset] [(.ref b257), (.ref b257)])) _
          refine XS.iloadN X257.here hx rfl (hb hby at_149) rfl ?_
          show Steps p.tables e below (T257.setTop (mkF m 150 #[.val (.int p1), .val (.int p2), .val (.int p3), .val (.int p4), .val (.ref b2), .val (.ref r10), .val (.int (2 : Int32)), .val (.ref b228), .val (.ref tA), .val (.int (own_off (p4 &&& (16 : Int32)))), .unset, .unset, .unset] [(.int p4), (.ref b257), (.ref b257)])) _
          refine XS.iconst X257.here hx rfl (hb hby at_150) ?_
          show Steps p.tables e below (T257.setTop (mkF m 151 #[.val (.int p1), .val (.int p2), .val (.int p3), .val (.int p4), .val (.ref b2), .val (.ref r10), .val (.int (2 : Int32)), .val (.ref b228), .val (.ref tA), .val (.int (own_off (p4 &&& (16 : Int32)))), .unset, .unset, .unset] [(.int (5 : Int32)), (.int p4), (.ref b257), (.ref b257)])) _
          refine XS.iushr X257.here hx rfl (hb hby at_151) rfl ?_
          show Steps p.tables e below (T257.setTop (mkF m 152 #[.val (.int p1), .val (.int p2), .val (.int p3), .val (.int p4), .val (.ref b2), .val (.ref r10), .val (.int (2 : Int32)), .val (.ref b228), .val (.ref tA), .val (.int (own_off (p4 &&& (16 : Int32)))), .unset, .unset, .unset] [(.int ((p4.toUInt32 >>> ((5 : Int32) &&& 31).toUInt32).toInt32)), (.ref b257), (.ref b257)])) _
          refine XS.aload X257.here hx rfl (hb hby at_152) rfl rfl ?_
          show Steps p.tables e below (T257.setTop (mkF m 154 #[.val (.int p1), .val (.int p2), .val (.int p3), .val (.int p4), .val (.ref b2), .val (.ref r10), .val (.int (2 : Int32)), .val (.ref b228), .val (.ref tA), .val (.int (own_off (p4 &&& (16 : Int32)))), .unset, .unset, .unset] [(.ref b2), (.int ((p4.toUInt32 >>> ((5 : Int32) &&& 31).toUInt32).toInt32)), (.ref b257), (.ref b257)])) _
          refine XS.aload X257.here hx rfl (hb hby at_154) rfl rfl ?_
          show Steps p.tables e below (T257.setTop (mkF m 156 #[.val (.int p1), .val (.int p2), .val (.int p3), .val (.int p4), .val (.ref b2), .val (.ref r10), .val (.int (2 : Int32)), .val (.ref b228), .val (.ref tA), .val (.int (own_off (p4 &&& (16 : Int32)))), .unset, .unset, .unset] [(.ref tA), (.ref b2), (.int ((p4.toUInt32 >>> ((5 : Int32) &&& 31).toUInt32).toInt32)), (.ref b257), (.ref b257)])) _
          refine XS.aconstNull X257.here hx rfl (hb hby at_156) ?_
          show Steps p.tables e below (T257.setTop (mkF m 157 #[.val (.int p1), .val (.int p2), .val (.int p3), .val (.int p4), .val (.ref b2), .val (.ref r10), .val (.int (2 : Int32)), .val (.ref b228), .val (.ref tA), .val (.int (own_off (p4 &&& (16 : Int32)))), .unset, .unset, .unset] [.null, (.ref tA), (.ref b2), (.int ((p4.toUInt32 >>> ((5 : Int32) &&& 31).toUInt32).toInt32)), (.ref b257), (.ref b257)])) _
          refine XS.aload X257.here hx rfl (hb hby at_157) rfl rfl ?_
          show Steps p.tables e below (T257.setTop (mkF m 159 #[.val (.int p1), .val (.int p2), .val (.int p3), .val (.int p4), .val (.ref b2), .val (.ref r10), .val (.int (2 : Int32)), .val (.ref b228), .val (.ref tA), .val (.int (own_off (p4 &&& (16 : Int32)))), .unset, .unset, .unset] [(.ref b228), .null, (.ref tA), (.ref b2), (.int ((p4.toUInt32 >>> ((5 : Int32) &&& 31).toUInt32).toInt32)), (.ref b257), (.ref b257)])) _
          refine XS.aload X257.here hx rfl (hb hby at_159) rfl rfl ?_
          show Steps p.tables e below (T257.setTop (mkF m 161 #[.val (.int p1), .val (.int p2), .val (.int p3), .val (.int p4), .val (.ref b2), .val (.ref r10), .val (.int (2 : Int32)), .val (.ref b228), .val (.ref tA), .val (.int (own_off (p4 &&& (16 : Int32)))), .unset, .unset, .unset] [(.ref r10), (.ref b228), .null, (.ref tA), (.ref b2), (.int ((p4.toUInt32 >>> ((5 : Int32) &&& 31).toUInt32).toInt32)), (.ref b257), (.ref b257)])) _
          refine XS.iload X257.here hx rfl (hb hby at_161) rfl ?_
          show Steps p.tables e below (T257.setTop (mkF m 163 #[.val (.int p1), .val (.int p2), .val (.int p3), .val (.int p4), .val (.ref b2), .val (.ref r10), .val (.int (2 : Int32)), .val (.ref b228), .val (.ref tA), .val (.int (own_off (p4 &&& (16 : Int32)))), .unset, .unset, .unset] [(.int (own_off (p4 &&& (16 : Int32)))), (.ref r10), (.ref b228), .null, (.ref tA), (.ref b2), (.int ((p4.toUInt32 >>> ((5 : Int32) &&& 31).toUInt32).toInt32)), (.ref b257), (.ref b257)])) _
          refine XS.iconst X257.here hx rfl (hb hby at_163) ?_
          exact k)
      obtain ⟨T266, h266, k266, X266, e266, E266, A266, st266⟩ := newP X257 hx hZ (hw _ (List.mem_of_getElem? (i := 0) rfl)) e257 (g := (mkF m 164 #[.val (.int p1), .val (.int p2), .val (.int p3), .val (.int p4), .val (.ref b2), .val (.ref r10), .val (.int (2 : Int32)), .val (.ref b228), .val (.ref tA), .val (.int (own_off (p4 &&& (16 : Int32)))), .unset, .unset, .unset] [(.int (0 : Int32)), (.int (own_off (p4 &&& (16 : Int32)))), (.ref r10), (.ref b228), .null, (.ref tA), (.ref b2), (.int ((p4.toUInt32 >>> ((5 : Int32) &&& 31).toUInt32).toInt32)), (.ref b257), (.ref b257)])) rfl (hb hby at_164) rfl (by decide) (cap := 0) (by decide) (by decide) (by decide) (by decide)
      obtain ⟨b266, g266⟩ : ∃ z, z = h257.size := ⟨_, rfl⟩
      rw [← g266] at A266 st266
      have g_b266 : n0 ≤ b266 := Nat.le_trans Z257 (Nat.le_of_eq g266.symm)
      have sz_b266 : h0.size ≤ b266 := Nat.le_trans Kp263.1 (Nat.le_of_eq g266.symm)
      have ne_b2_b266 : b2 ≠ b266 := Nat.ne_of_lt (Nat.lt_of_lt_of_le Vf258.lt (Nat.le_of_eq g266.symm))
      have ne_b228_b266 : b228 ≠ b266 := Nat.ne_of_lt (Nat.lt_of_lt_of_le Ef259.lt (Nat.le_of_eq g266.symm))
      have ne_tA_b266 : tA ≠ b266 := Nat.ne_of_lt (Nat.lt_of_lt_of_le Ef261.lt (Nat.le_of_eq g266.symm))
      have ne_b257_b266 : b257 ≠ b266 := Nat.ne_of_lt (Nat.lt_of_lt_of_le A257.lt (Nat.le_of_eq g266.symm))
      have Vf267 := Vf258.ext E266
      have Ef268 := Ef259.ext E266
      have Vf269 := Vf260.ext E266
      have Ef270 := Ef261.ext E266
      have Ff271 := Ff262.ext E266
      have Ef272 := A257.ext E266
      have Ff273 := F_mPcr_b257.ext E266
      have Ff274 := F_mTemplateDigest_b257.ext E266
      have Ff275 := F_mTemplateName_b257.ext E266
      have Ff276 := F_mTemplate_b257.ext E266
      have Ff277 := F_mName_b257.ext E266
      have Ff278 := F_mDigestAlgorithm_b257.ext E266
      have Ff279 := F_mDigest_b257.ext E266
      have Ff280 := F_mEventDataOffset_b257.ext E266
      have Ff281 := F_mTemplateData_b257.ext E266
      have Ff282 := F_mViolation_b257.ext E266
      have Z266 : n0 ≤ h266.size := Nat.le_trans Z257 E266.1
      have Kp283 : Keep h0 h266 [] := Kp263.ext E266
      have V266 : own_Ar Z h266 b266 .byte 0 (fun _ => (.int (0 : Int32))) := own_Ar.new A266 rfl
      have ac284 : ∀ t, Steps p.tables e below (T266.setTop (mkF m 166 #[.val (.int p1), .val (.int p2), .val (.int p3), .val (.int p4), .val (.ref b2), .val (.ref r10), .val (.int (2 : Int32)), .val (.ref b228), .val (.ref tA), .val (.int (own_off (p4 &&& (16 : Int32)))), .unset, .unset, .unset] [(.ref b266), (.int (own_off (p4 &&& (16 : Int32)))), (.ref r10), (.ref b228), .null, (.ref tA), (.ref b2), (.int ((p4.toUInt32 >>> ((5 : Int32) &&& 31).toUInt32).toInt32)), (.ref b257), (.ref b257)])) t → Steps p.tables e below (s₁.setTop (entryFrame m #[(.int p1), (.int p2), (.int p3), (.int p4)] maxLocals)) t := fun t k => ac265 t (st266 t k)
      obtain ⟨_, _, ⟨T285, L285, k285, n285⟩, -, X285, ⟨Lc285, hQ285, l285, y285, z285⟩, st285⟩ := X266.specialBack hx (y := (⟨"com/example/votal/votal/log/LogRecord", "<init>", "(I[BLcom/example/votal/votal/log/Template;Lcom/example/votal/votal/log/DigestAlgorithm;[BLjava/lang/String;I[B)V"⟩ : MethodName)) rfl hown (mvT hZ (hw _ (List.mem_of_getElem? (i := 32) rfl))) (mvT hZ (hw _ (List.mem_of_getElem? (i := 33) rfl))) (mvT hZ (hw _ (List.mem_of_getElem? (i := 34) rfl))) (by decide) (backOf (W := 1) (rm6 l Z a0 hw [] b257 ((p4.toUInt32 >>> ((5 : Int32) &&& 31).toUInt32).toInt32) b2 tA b228 r10 (own_off (p4 &&& (16 : Int32))) b266 20 _ nA h266 n0 Z266 Ef272 g_b257 Vf267 (own_td _) (by decide) ne_b2_b257 Ff273 Ff274 Ff275 Ff276 Ff277 Ff278 Ff279 Ff280 Ff281 Ff282 Ef270 Ff271 ne_tA_b257) hZ (hw _ (List.mem_of_getElem? (i := 34) rfl)) (hw _ (List.mem_of_getElem? (i := 31) rfl)) (by decide) (by decide)) (g := (mkF m 166 #[.val (.int p1), .val (.int p2), .val (.int p3), .val (.int p4), .val (.ref b2), .val (.ref r10), .val (.int (2 : Int32)), .val (.ref b228), .val (.ref tA), .val (.int (own_off (p4 &&& (16 : Int32)))), .unset, .unset, .unset] [(.ref b266), (.int (own_off (p4 &&& (16 : Int32)))), (.ref r10), (.ref b228), .null, (.ref tA), (.ref b2), (.int ((p4.toUInt32 >>> ((5 : Int32) &&& 31).toUInt32).toInt32)), (.ref b257), (.ref b257)])) rfl (by rw [hml]; rfl) (Steps.refl _) (a := b257) (argsL := [(.int ((p4.toUInt32 >>> ((5 : Int32) &&& 31).toUInt32).toInt32)), (.ref b2), (.ref tA), .null, (.ref b228), (.ref r10), (.int (own_off (p4 &&& (16 : Int32)))), (.ref b266)]) (rest := [(.ref b257)]) (lenOf pd_5 rfl) rfl (by show 2 * 0 + _ ≤ _; exact Nat.le_of_eq rfl) (hb hby at_166) (fun _ _ => ⟨rfl, e266, (by decide : 6 + 0 ≤ _), (by decide : 37 + 0 ≤ _)⟩)
      dsimp only [Pt.U, Pt.locs, Pt.cells, Pt.slots] at X285 l285 y285 z285 st285 hQ285
      subst l285 y285 z285
      obtain ⟨rfl, N285q, K285q, Ex285, Fl285⟩ := hQ285
      have N285 := Fr.app N239 N285q
      have Vf286 := Vf267.keep K285q (ninS ne_b2_b257 nin0)
      have Ef287 := Ef268.keep K285q
      have Vf288 := Vf269.keep K285q (ninS ne_b228_b257 nin0)
      have Ef289 := Ef270.keep K285q
      have Ff290 := Ff271.keep K285q (ninS ne_tA_b257 nin0)
      have Ef291 := Ef272.keep K285q
      have Vf292 := V266.keep K285q (ninS (Ne.symm ne_b257_b266) nin0)
      have Z285 : n0 ≤ T285.heap.size := Nat.le_trans Z266 K285q.1
      have Kp293 : Keep h0 T285.heap [] := Kp283.trans K285q (allS (Or.inr sz_b257) all0)
      have ac294 : ∀ t, Steps p.tables e below (T285.setTop (mkF m 169 #[.val (.int p1), .val (.int p2), .val (.int p3), .val (.int p4), .val (.ref b2), .val (.ref r10), .val (.int (2 : Int32)), .val (.ref b228), .val (.ref tA), .val (.int (own_off (p4 &&& (16 : Int32)))), .unset, .unset, .unset] [(.ref b257)])) t → Steps p.tables e below (s₁.setTop (entryFrame m #[(.int p1), (.int p2), (.int p3), (.int p4)] maxLocals)) t := fun t k => ac284 t (st285.trans k)
      have ac295 : ∀ t, Steps p.tables e below (T285.setTop (mkF m 173 #[.val (.int p1), .val (.int p2), .val (.int p3), .val (.int p4), .val (.ref b2), .val (.ref r10), .val (.int (2 : Int32)), .val (.ref b228), .val (.ref tA), .val (.int (own_off (p4 &&& (16 : Int32)))), .val (.ref b257), .unset, .unset] [(.ref b257)])) t → Steps p.tables e below (s₁.setTop (entryFrame m #[(.int p1), (.int p2), (.int p3), (.int p4)] maxLocals)) t := fun t k => ac294 t (by
          show Steps p.tables e below (T285.setTop (mkF m 169 #[.val (.int p1), .val (.int p2), .val (.int p3), .val (.int p4), .val (.ref b2), .val (.ref r10), .val (.int (2 : Int32)), .val (.ref b228), .val (.ref tA), .val (.int (own_off (p4 &&& (16 : Int32)))), .unset, .unset, .unset] [(.ref b257)])) _
          refine XS.astore X285.here hx rfl (hb hby at_169) rfl rfl (l' := #[.val (.int p1), .val (.int p2), .val (.int p3), .val (.int p4), .val (.ref b2), .val (.ref r10), .val (.int (2 : Int32)), .val (.ref b228), .val (.ref tA), .val (.int (own_off (p4 &&& (16 : Int32)))), .val (.ref b257), .unset, .unset]) rfl ?_
          show Steps p.tables e below (T285.setTop (mkF m 171 #[.val (.int p1), .val (.int p2), .val (.int p3), .val (.int p4), .val (.ref b2), .val (.ref r10), .val (.int (2 : Int32)), .val (.ref b228), .val (.ref tA), .val (.int (own_off (p4 &&& (16 : Int32)))), .val (.ref b257), .unset, .unset] [])) _
          refine XS.aload X285.here hx rfl (hb hby at_171) rfl rfl ?_
          exact k)
      obtain ⟨cq296, kq296, q296a, q296b, q296c⟩ := isOf hZ rfl Ef291
      obtain ⟨_, _, ⟨T296, L296, k296, n296⟩, -, X296, ⟨Lc296, hQ296, l296, y296, z296⟩, st296⟩ := X285.virtualBack hx (y := (⟨"com/example/votal/votal/log/LogRecord", "getDigest", "()[B"⟩ : MethodName)) (z := (⟨"com/example/votal/votal/log/LogRecord", "getDigest", "()[B"⟩ : MethodName)) hown (mvT hZ (hw _ (List.mem_of_getElem? (i := 66) rfl))) (mvT hZ (hw _ (List.mem_of_getElem? (i := 67) rfl))) (notFace_of_selects (args := #[]) (mvT hZ (hw _ (List.mem_of_getElem? (i := 69) rfl)))) (mvT hZ (hw _ (List.mem_of_getElem? (i := 69) rfl))) (mvT hZ (hw _ (List.mem_of_getElem? (i := 68) rfl))) (by decide) (backOf (W := 0) (rm9c l Z a0 hw [] b257 b228 2 _ T285.heap n0 Z285 Fl285 Vf288 Ef287 (by decide)) hZ (hw _ (List.mem_of_getElem? (i := 70) rfl)) (hw _ (List.mem_of_getElem? (i := 31) rfl)) (by decide) (by decide)) q296a q296c (g := (mkF m 173 #[.val (.int p1), .val (.int p2), .val (.int p3), .val (.int p4), .val (.ref b2), .val (.ref r10), .val (.int (2 : Int32)), .val (.ref b228), .val (.ref tA), .val (.int (own_off (p4 &&& (16 : Int32)))), .val (.ref b257), .unset, .unset] [(.ref b257)])) rfl (by rw [hml]; rfl) (Steps.refl _) (argsL := []) (rest := []) (lenOf pd_8 rfl) rfl (by show 2 * 0 + _ ≤ _; exact Nat.le_of_eq rfl) (hb hby at_173) (fun _ _ => ⟨rfl, rfl, (by decide : 6 + 1 ≤ _), (by decide : 37 + 3 ≤ _)⟩)
      dsimp only [Pt.U, Pt.locs, Pt.cells, Pt.slots] at X296 l296 y296 z296 st296 hQ296
      subst l296 y296 z296
      obtain ⟨r296, rfl, N296q, K296q, sz296, Vr296⟩ := hQ296
      have N296 := Fr.app N285 N296q
      have Vf297 := Vf286.keep K296q nin0
      have Ef298 := Ef287.keep K296q
      have Vf299 := Vf288.keep K296q nin0
      have Ef300 := Ef289.keep K296q
      have Ff301 := Ff290.keep K296q nin0
      have Ef302 := Ef291.keep K296q
      have Vf303 := Vf292.keep K296q nin0
      have Ff304 := Fl285.keep K296q nin0
      have Z296 : n0 ≤ T296.heap.size := Nat.le_trans Z285 K296q.1
      have Kp305 : Keep h0 T296.heap [] := Kp293.trans K296q all0
      have g_r296 : n0 ≤ r296 := Nat.le_trans Z285 sz296
      have sz_r296 : h0.size ≤ r296 := Nat.le_trans Kp293.1 sz296
      have ne_b2_r296 : b2 ≠ r296 := Nat.ne_of_lt (Nat.lt_of_lt_of_le Vf286.lt sz296)
      have ne_b228_r296 : b228 ≠ r296 := Nat.ne_of_lt (Nat.lt_of_lt_of_le Ef287.lt sz296)
      have ne_tA_r296 : tA ≠ r296 := Nat.ne_of_lt (Nat.lt_of_lt_of_le Ef289.lt sz296)
      have ne_b257_r296 : b257 ≠ r296 := Nat.ne_of_lt (Nat.lt_of_lt_of_le Ef291.lt sz296)
      have ne_b266_r296 : b266 ≠ r296 := Nat.ne_of_lt (Nat.lt_of_lt_of_le Vf292.lt sz296)
      have ac306 : ∀ t, Steps p.tables e below (T296.setTop (mkF m 176 #[.val (.int p1), .val (.int p2), .val (.int p3), .val (.int p4), .val (.ref b2), .val (.ref r10), .val (.int (2 : Int32)), .val (.ref b228), .val (.ref tA), .val (.int (own_off (p4 &&& (16 : Int32)))), .val (.ref b257), .unset, .unset] [(.ref r296)])) t → Steps p.tables e below (s₁.setTop (entryFrame m #[(.int p1), (.int p2), (.int p3), (.int p4)] maxLocals)) t := fun t k => ac295 t (st296.trans k)
      have ac307 : ∀ t, Steps p.tables e below (T296.setTop (mkF m 196 #[.val (.int p1), .val (.int p2), .val (.int p3), .val (.int p4), .val (.ref b2), .val (.ref r10), .val (.int (2 : Int32)), .val (.ref b228), .val (.ref tA), .val (.int (own_off (p4 &&& (16 : Int32)))), .val (.ref b257), .val (.ref r296), .unset] [(.int p2), (.int p1), (.int (2 : Int32)), (.ref r296)])) t → Steps p.tables e below (s₁.setTop (entryFrame m #[(.int p1), (.int p2), (.int p3), (.int p4)] maxLocals)) t := fun t k => ac306 t (by
          show Steps p.tables e below (T296.setTop (mkF m 176 #[.val (.int p1), .val (.int p2), .val (.int p3), .val (.int p4), .val (.ref b2), .val (.ref r10), .val (.int (2 : Int32)), .val (.ref b228), .val (.ref tA), .val (.int (own_off (p4 &&& (16 : Int32)))), .val (.ref b257), .unset, .unset] [(.ref r296)])) _
          refine XS.astore X296.here hx rfl (hb hby at_176) rfl rfl (l' := #[.val (.int p1), .val (.int p2), .val (.int p3), .val (.int p4), .val (.ref b2), .val (.ref r10), .val (.int (2 : Int32)), .val (.ref b228), .val (.ref tA), .val (.int (own_off (p4 &&& (16 : Int32)))), .val (.ref b257), .val (.ref r296), .unset]) rfl ?_
          show Steps p.tables e below (T296.setTop (mkF m 178 #[.val (.int p1), .val (.int p2), .val (.int p3), .val (.int p4), .val (.ref b2), .val (.ref r10), .val (.int (2 : Int32)), .val (.ref b228), .val (.ref tA), .val (.int (own_off (p4 &&& (16 : Int32)))), .val (.ref b257), .val (.ref r296), .unset] [])) _
          refine XS.aload X296.here hx rfl (hb hby at_178) rfl rfl ?_
          show Steps p.tables e below (T296.setTop (mkF m 180 #[.val (.int p1), .val (.int p2), .val (.int p3), .val (.int p4), .val (.ref b2), .val (.ref r10), .val (.int (2 : Int32)), .val (.ref b228), .val (.ref tA), .val (.int (own_off (p4 &&& (16 : Int32)))), .val (.ref b257), .val (.ref r296), .unset] [(.ref r296)])) _
          refine XS.ifnullNo X296.here hx rfl (hb hby at_180) rfl ?_
          show Steps p.tables e below (T296.setTop (mkF m 183 #[.val (.int p1), .val (.int p2), .val (.int p3), .val (.int p4), .val (.ref b2), .val (.ref r10), .val (.int (2 : Int32)), .val (.ref b228), .val (.ref tA), .val (.int (own_off (p4 &&& (16 : Int32)))), .val (.ref b257), .val (.ref r296), .unset] [])) _
          refine XS.aload X296.here hx rfl (hb hby at_183) rfl rfl ?_
          show Steps p.tables e below (T296.setTop (mkF m 185 #[.val (.int p1), .val (.int p2), .val (.int p3), .val (.int p4), .val (.ref b2), .val (.ref r10), .val (.int (2 : Int32)), .val (.ref b228), .val (.ref tA), .val (.int (own_off (p4 &&& (16 : Int32)))), .val (.ref b257), .val (.ref r296), .unset] [(.ref r296)])) _
          refine XS.aload X296.here hx rfl (hb hby at_185) rfl rfl ?_
          show Steps p.tables e below (T296.setTop (mkF m 187 #[.val (.int p1), .val (.int p2), .val (.int p3), .val (.int p4), .val (.ref b2), .val (.ref r10), .val (.int (2 : Int32)), .val (.ref b228), .val (.ref tA), .val (.int (own_off (p4 &&& (16 : Int32)))), .val (.ref b257), .val (.ref r296), .unset] [(.ref b228), (.ref r296)])) _
          refine Jvm.RoadKit.acmp (g := (mkF m 187 #[.val (.int p1), .val (.int p2), .val (.int p3), .val (.int p4), .val (.ref b2), .val (.ref r10), .val (.int (2 : Int32)), .val (.ref b228), .val (.ref tA), .val (.int (own_off (p4 &&& (16 : Int32)))), .val (.ref b257), .val (.ref r296), .unset] [(.ref b228), (.ref r296)])) X296 hx rfl rfl rfl (pc0 := 187) (pc' := 190) (same := false) rfl (hb hby at_187) rfl (decide_eq_false fun q => (Ne.symm ne_b228_r296) (Value.ref.inj q)) (by decide) (by decide) ?_
          show Steps p.tables e below (T296.setTop (mkF m 190 #[.val (.int p1), .val (.int p2), .val (.int p3), .val (.int p4), .val (.ref b2), .val (.ref r10), .val (.int (2 : Int32)), .val (.ref b228), .val (.ref tA), .val (.int (own_off (p4 &&& (16 : Int32)))), .val (.ref b257), .val (.ref r296), .unset] [])) _
          refine XS.aload X296.here hx rfl (hb hby at_190) rfl rfl ?_
          show Steps p.tables e below (T296.setTop (mkF m 192 #[.val (.int p1), .val (.int p2), .val (.int p3), .val (.int p4), .val (.ref b2), .val (.ref r10), .val (.int (2 : Int32)), .val (.ref b228), .val (.ref tA), .val (.int (own_off (p4 &&& (16 : Int32)))), .val (.ref b257), .val (.ref r296), .unset] [(.ref r296)])) _
          refine XS.iload X296.here hx rfl (hb hby at_192) rfl ?_
          show Steps p.tables e below (T296.setTop (mkF m 194 #[.val (.int p1), .val (.int p2), .val (.int p3), .val (.int p4), .val (.ref b2), .val (.ref r10), .val (.int (2 : Int32)), .val (.ref b228), .val (.ref tA), .val (.int (own_off (p4 &&& (16 : Int32)))), .val (.ref b257), .val (.ref r296), .unset] [(.int (2 : Int32)), (.ref r296)])) _
          refine XS.iloadN X296.here hx rfl (hb hby at_194) rfl ?_
          show Steps p.tables e below (T296.setTop (mkF m 195 #[.val (.int p1), .val (.int p2), .val (.int p3), .val (.int p4), .val (.ref b2), .val (.ref r10), .val (.int (2 : Int32)), .val (.ref b228), .val (.ref tA), .val (.int (own_off (p4 &&& (16 : Int32)))), .val (.ref b257), .val (.ref r296), .unset] [(.int p1), (.int (2 : Int32)), (.ref r296)])) _
          refine XS.iloadN X296.here hx rfl (hb hby at_195) rfl ?_
          exact k)
      obtain ⟨_, _, ⟨T308, L308, k308, n308⟩, -, X308, ⟨Lc308, hQ308, l308, y308, z308⟩, st308⟩ := Jvm.LawKit.callS X296 hx (y := (⟨"com/example/votal/votal/log/LogRecordGetDigestPinLaw", "same", "([BIII)Z"⟩ : MethodName)) hown (mvT hZ (hw _ (List.mem_of_getElem? (i := 80) rfl))) (mvT hZ (hw _ (List.mem_of_getElem? (i := 81) rfl))) (mvT hZ (hw _ (List.mem_of_getElem? (i := 82) rfl))) (mvT hZ (hw _ (List.mem_of_getElem? (i := 83) rfl))) (by decide) (backOf (W := 0) (rm10_2 l Z a0 hw [] r296 (2 : Int32) p1 p2 _ T296.heap n0 Z296 Vr296 rfl rfl rfl) hZ (hw _ (List.mem_of_getElem? (i := 83) rfl)) (hw _ (List.mem_of_getElem? (i := 82) rfl)) (by decide) (by decide)) (g := (mkF m 196 #[.val (.int p1), .val (.int p2), .val (.int p3), .val (.int p4), .val (.ref b2), .val (.ref r10), .val (.int (2 : Int32)), .val (.ref b228), .val (.ref tA), .val (.int (own_off (p4 &&& (16 : Int32)))), .val (.ref b257), .val (.ref r296), .unset] [(.int p2), (.int p1), (.int (2 : Int32)), (.ref r296)])) rfl (by rw [hml]; rfl) (argsL := [(.ref r296), (.int (2 : Int32)), (.int p1), (.int p2)]) (rest := []) (lenOf pd_10 rfl) rfl (by show 2 * 0 + _ ≤ _; exact Nat.le_of_eq rfl) (hb hby at_196) (fun _ _ => ⟨rfl, rfl, (by decide : 7 + 0 ≤ _), (by decide : 40 + 0 ≤ _)⟩)
      dsimp only [Pt.U, Pt.locs, Pt.cells, Pt.slots] at X308 l308 y308 z308 st308 hQ308
      subst l308 y308 z308
      obtain ⟨rfl, N308q, Qe308⟩ := hQ308
      have N308 := Fr.app N296 N308q
      have ac309 : ∀ t, Steps p.tables e below (T308.setTop (mkF m 199 #[.val (.int p1), .val (.int p2), .val (.int p3), .val (.int p4), .val (.ref b2), .val (.ref r10), .val (.int (2 : Int32)), .val (.ref b228), .val (.ref tA), .val (.int (own_off (p4 &&& (16 : Int32)))), .val (.ref b257), .val (.ref r296), .unset] [(.int (1 : Int32))])) t → Steps p.tables e below (s₁.setTop (entryFrame m #[(.int p1), (.int p2), (.int p3), (.int p4)] maxLocals)) t := fun t k => ac307 t (st308 t k)
      have ac310 : ∀ t, Steps p.tables e below (T308.setTop (mkF m 215 #[.val (.int p1), .val (.int p2), .val (.int p3), .val (.int p4), .val (.ref b2), .val (.ref r10), .val (.int (2 : Int32)), .val (.ref b228), .val (.ref tA), .val (.int (own_off (p4 &&& (16 : Int32)))), .val (.ref b257), .val (.ref r296), .unset] [(.int (0 : Int32)), (.ref r296), (.int (0 : Int32)), (.ref r296)])) t → Steps p.tables e below (s₁.setTop (entryFrame m #[(.int p1), (.int p2), (.int p3), (.int p4)] maxLocals)) t := fun t k => ac309 t (by
          show Steps p.tables e below (T308.setTop (mkF m 199 #[.val (.int p1), .val (.int p2), .val (.int p3), .val (.int p4), .val (.ref b2), .val (.ref r10), .val (.int (2 : Int32)), .val (.ref b228), .val (.ref tA), .val (.int (own_off (p4 &&& (16 : Int32)))), .val (.ref b257), .val (.ref r296), .unset] [(.int (1 : Int32))])) _
          refine XS.ifYes X308.here hx rfl (pc0 := 199) (pc' := 204) rfl (hb hby at_199) rfl ((if0 _ _).trans (feq (by decide)).2) (by decide) (by decide) ?_
          show Steps p.tables e below (T308.setTop (mkF m 204 #[.val (.int p1), .val (.int p2), .val (.int p3), .val (.int p4), .val (.ref b2), .val (.ref r10), .val (.int (2 : Int32)), .val (.ref b228), .val (.ref tA), .val (.int (own_off (p4 &&& (16 : Int32)))), .val (.ref b257), .val (.ref r296), .unset] [])) _
          refine XS.iload X308.here hx rfl (hb hby at_204) rfl ?_
          show Steps p.tables e below (T308.setTop (mkF m 206 #[.val (.int p1), .val (.int p2), .val (.int p3), .val (.int p4), .val (.ref b2), .val (.ref r10), .val (.int (2 : Int32)), .val (.ref b228), .val (.ref tA), .val (.int (own_off (p4 &&& (16 : Int32)))), .val (.ref b257), .val (.ref r296), .unset] [(.int (2 : Int32))])) _
          refine XS.ifNo X308.here hx rfl (hb hby at_206) rfl ((if0 _ _).trans (tlt (by decide)).2.2.2) ?_
          show Steps p.tables e below (T308.setTop (mkF m 209 #[.val (.int p1), .val (.int p2), .val (.int p3), .val (.int p4), .val (.ref b2), .val (.ref r10), .val (.int (2 : Int32)), .val (.ref b228), .val (.ref tA), .val (.int (own_off (p4 &&& (16 : Int32)))), .val (.ref b257), .val (.ref r296), .unset] [])) _
          refine XS.aload X308.here hx rfl (hb hby at_209) rfl rfl ?_
          show Steps p.tables e below (T308.setTop (mkF m 211 #[.val (.int p1), .val (.int p2), .val (.int p3), .val (.int p4), .val (.ref b2), .val (.ref r10), .val (.int (2 : Int32)), .val (.ref b228), .val (.ref tA), .val (.int (own_off (p4 &&& (16 : Int32)))), .val (.ref b257), .val (.ref r296), .unset] [(.ref r296)])) _
          refine XS.iconst X308.here hx rfl (hb hby at_211) ?_
          show Steps p.tables e below (T308.setTop (mkF m 212 #[.val (.int p1), .val (.int p2), .val (.int p3), .val (.int p4), .val (.ref b2), .val (.ref r10), .val (.int (2 : Int32)), .val (.ref b228), .val (.ref tA), .val (.int (own_off (p4 &&& (16 : Int32)))), .val (.ref b257), .val (.ref r296), .unset] [(.int (0 : Int32)), (.ref r296)])) _
          refine XS.aload X308.here hx rfl (hb hby at_212) rfl rfl ?_
          show Steps p.tables e below (T308.setTop (mkF m 214 #[.val (.int p1), .val (.int p2), .val (.int p3), .val (.int p4), .val (.ref b2), .val (.ref r10), .val (.int (2 : Int32)), .val (.ref b228), .val (.ref tA), .val (.int (own_off (p4 &&& (16 : Int32)))), .val (.ref b257), .val (.ref r296), .unset] [(.ref r296), (.int (0 : Int32)), (.ref r296)])) _
          refine XS.iconst X308.here hx rfl (hb hby at_214) ?_
          exact k)
      obtain ⟨cl311, Ac311, hin311, hat311⟩ := Vr296.at (j := (0 : Int32)) (i := 0) rfl (by decide)
      have ac312 : ∀ t, Steps p.tables e below (T308.setTop (mkF m 219 #[.val (.int p1), .val (.int p2), .val (.int p3), .val (.int p4), .val (.ref b2), .val (.ref r10), .val (.int (2 : Int32)), .val (.ref b228), .val (.ref tA), .val (.int (own_off (p4 &&& (16 : Int32)))), .val (.ref b257), .val (.ref r296), .unset] [(.int (((p1.toInt8.toInt32) + (1 : Int32)).toInt8.toInt32)), (.int (0 : Int32)), (.ref r296)])) t → Steps p.tables e below (s₁.setTop (entryFrame m #[(.int p1), (.int p2), (.int p3), (.int p4)] maxLocals)) t := fun t k => ac310 t (by
          show Steps p.tables e below (T308.setTop (mkF m 215 #[.val (.int p1), .val (.int p2), .val (.int p3), .val (.int p4), .val (.ref b2), .val (.ref r10), .val (.int (2 : Int32)), .val (.ref b228), .val (.ref tA), .val (.int (own_off (p4 &&& (16 : Int32)))), .val (.ref b257), .val (.ref r296), .unset] [(.int (0 : Int32)), (.ref r296), (.int (0 : Int32)), (.ref r296)])) _
          refine X308.baloadBytes hx (j := (0 : Int32)) (v := (.int (p1.toInt8.toInt32))) (by rw [Qe308]; exact Ac311.1) (State.isArrayOf_alike hZ.alike Ac311.2.1) Ac311.2.2 hin311 (hat311.trans (congrArg some rfl)) (g := (mkF m 215 #[.val (.int p1), .val (.int p2), .val (.int p3), .val (.int p4), .val (.ref b2), .val (.ref r10), .val (.int (2 : Int32)), .val (.ref b228), .val (.ref tA), .val (.int (own_off (p4 &&& (16 : Int32)))), .val (.ref b257), .val (.ref r296), .unset] [(.int (0 : Int32)), (.ref r296), (.int (0 : Int32)), (.ref r296)])) rfl rfl (hb hby at_215) _ ?_
          show Steps p.tables e below (T308.setTop (mkF m 216 #[.val (.int p1), .val (.int p2), .val (.int p3), .val (.int p4), .val (.ref b2), .val (.ref r10), .val (.int (2 : Int32)), .val (.ref b228), .val (.ref tA), .val (.int (own_off (p4 &&& (16 : Int32)))), .val (.ref b257), .val (.ref r296), .unset] [(.int (p1.toInt8.toInt32)), (.int (0 : Int32)), (.ref r296)])) _
          refine XS.iconst X308.here hx rfl (hb hby at_216) ?_
          show Steps p.tables e below (T308.setTop (mkF m 217 #[.val (.int p1), .val (.int p2), .val (.int p3), .val (.int p4), .val (.ref b2), .val (.ref r10), .val (.int (2 : Int32)), .val (.ref b228), .val (.ref tA), .val (.int (own_off (p4 &&& (16 : Int32)))), .val (.ref b257), .val (.ref r296), .unset] [(.int (1 : Int32)), (.int (p1.toInt8.toInt32)), (.int (0 : Int32)), (.ref r296)])) _
          refine XS.iadd X308.here hx rfl (hb hby at_217) rfl ?_
          show Steps p.tables e below (T308.setTop (mkF m 218 #[.val (.int p1), .val (.int p2), .val (.int p3), .val (.int p4), .val (.ref b2), .val (.ref r10), .val (.int (2 : Int32)), .val (.ref b228), .val (.ref tA), .val (.int (own_off (p4 &&& (16 : Int32)))), .val (.ref b257), .val (.ref r296), .unset] [(.int ((p1.toInt8.toInt32) + (1 : Int32))), (.int (0 : Int32)), (.ref r296)])) _
          refine XS.i2b X308.here hx rfl (hb hby at_218) rfl ?_
          exact k)
      obtain ⟨cl313, Ac313, hin313, -⟩ := Vr296.at (j := (0 : Int32)) (i := 0) rfl (by decide)
      obtain ⟨T313, h313, X313, e313, W313, st313⟩ := stB X308 hx hZ Qe308 Ac313 (j := (0 : Int32)) hin313 (g := (mkF m 219 #[.val (.int p1), .val (.int p2), .val (.int p3), .val (.int p4), .val (.ref b2), .val (.ref r10), .val (.int (2 : Int32)), .val (.ref b228), .val (.ref tA), .val (.int (own_off (p4 &&& (16 : Int32)))), .val (.ref b257), .val (.ref r296), .unset] [(.int (((p1.toInt8.toInt32) + (1 : Int32)).toInt8.toInt32)), (.int (0 : Int32)), (.ref r296)])) rfl rfl (hb hby at_219)
      have V313 := Vr296.set (i := 0) rfl W313 (fits_nar_byte _)
      have Vf314 := Vf297.other W313 ne_b2_r296
      have Ef315 := Ef298.wr W313
      have Vf316 := Vf299.other W313 ne_b228_r296
      have Ef317 := Ef300.wr W313
      have Ff318 := Ff301.other W313 (Or.inl ne_tA_r296)
      have Ef319 := Ef302.wr W313
      have Vf320 := Vf303.other W313 ne_b266_r296
      have Ff321 := Ff304.other W313 (Or.inl ne_b257_r296)
      have N313 := Fr.snoc X313 N308 g_r296
      have Z313 : n0 ≤ h313.size := Nat.le_trans Z296 (Keep.of_wr W313).1
      have Kp322 : Keep h0 h313 [] := Kp305.wr W313 (Or.inr sz_r296)
      have ac323 : ∀ t, Steps p.tables e below (T313.setTop (mkF m 220 #[.val (.int p1), .val (.int p2), .val (.int p3), .val (.int p4), .val (.ref b2), .val (.ref r10), .val (.int (2 : Int32)), .val (.ref b228), .val (.ref tA), .val (.int (own_off (p4 &&& (16 : Int32)))), .val (.ref b257), .val (.ref r296), .unset] [])) t → Steps p.tables e below (s₁.setTop (entryFrame m #[(.int p1), (.int p2), (.int p3), (.int p4)] maxLocals)) t := fun t k => ac312 t (st313 t k)
      have ac324 : ∀ t, Steps p.tables e below (T313.setTop (mkF m 222 #[.val (.int p1), .val (.int p2), .val (.int p3), .val (.int p4), .val (.ref b2), .val (.ref r10), .val (.int (2 : Int32)), .val (.ref b228), .val (.ref tA), .val (.int (own_off (p4 &&& (16 : Int32)))), .val (.ref b257), .val (.ref r296), .unset] [(.ref b257)])) t → Steps p.tables e below (s₁.setTop (entryFrame m #[(.int p1), (.int p2), (.int p3), (.int p4)] maxLocals)) t := fun t k => ac323 t (by
          show Steps p.tables e below (T313.setTop (mkF m 220 #[.val (.int p1), .val (.int p2), .val (.int p3), .val (.int p4), .val (.ref b2), .val (.ref r10), .val (.int (2 : Int32)), .val (.ref b228), .val (.ref tA), .val (.int (own_off (p4 &&& (16 : Int32)))), .val (.ref b257), .val (.ref r296), .unset] [])) _
          refine XS.aload X313.here hx rfl (hb hby at_220) rfl rfl ?_
          exact k)
      obtain ⟨cq325, kq325, q325a, q325b, q325c⟩ := isOf hZ e313 Ef319
      obtain ⟨_, _, ⟨T325, L325, k325, n325⟩, -, X325, ⟨Lc325, hQ325, l325, y325, z325⟩, st325⟩ := X313.virtualBack hx (y := (⟨"com/example/votal/votal/log/LogRecord", "getDigest", "()[B"⟩ : MethodName)) (z := (⟨"com/example/votal/votal/log/LogRecord", "getDigest", "()[B"⟩ : MethodName)) hown (mvT hZ (hw _ (List.mem_of_getElem? (i := 66) rfl))) (mvT hZ (hw _ (List.mem_of_getElem? (i := 67) rfl))) (notFace_of_selects (args := #[]) (mvT hZ (hw _ (List.mem_of_getElem? (i := 69) rfl)))) (mvT hZ (hw _ (List.mem_of_getElem? (i := 69) rfl))) (mvT hZ (hw _ (List.mem_of_getElem? (i := 68) rfl))) (by decide) (backOf (W := 0) (rm9c l Z a0 hw [] b257 b228 2 _ h313 n0 Z313 Ff321 Vf316 Ef315 (by decide)) hZ (hw _ (List.mem_of_getElem? (i := 70) rfl)) (hw _ (List.mem_of_getElem? (i := 31) rfl)) (by decide) (by decide)) q325a q325c (g := (mkF m 222 #[.val (.int p1), .val (.int p2), .val (.int p3), .val (.int p4), .val (.ref b2), .val (.ref r10), .val (.int (2 : Int32)), .val (.ref b228), .val (.ref tA), .val (.int (own_off (p4 &&& (16 : Int32)))), .val (.ref b257), .val (.ref r296), .unset] [(.ref b257)])) rfl (by rw [hml]; rfl) (Steps.refl _) (argsL := []) (rest := []) (lenOf pd_8 rfl) rfl (by show 2 * 0 + _ ≤ _; exact Nat.le_of_eq rfl) (hb hby at_222) (fun _ _ => ⟨rfl, e313, (by decide : 7 + 1 ≤ _), (by decide : 40 + 3 ≤ _)⟩)
      dsimp only [Pt.U, Pt.locs, Pt.cells, Pt.slots] at X325 l325 y325 z325 st325 hQ325
      subst l325 y325 z325
      obtain ⟨r325, rfl, N325q, K325q, sz325, Vr325⟩ := hQ325
      have N325 := Fr.app N313 N325q
      have Vf326 := Vf314.keep K325q nin0
      have Ef327 := Ef315.keep K325q
      have Vf328 := Vf316.keep K325q nin0
      have Ef329 := Ef317.keep K325q
      have Ff330 := Ff318.keep K325q nin0
      have Ef331 := Ef319.keep K325q
      have Vf332 := Vf320.keep K325q nin0
      have Ff333 := Ff321.keep K325q nin0
      have Vf334 := V313.keep K325q nin0
      have Z325 : n0 ≤ T325.heap.size := Nat.le_trans Z313 K325q.1
      have Kp335 : Keep h0 T325.heap [] := Kp322.trans K325q all0
      have g_r325 : n0 ≤ r325 := Nat.le_trans Z313 sz325
      have sz_r325 : h0.size ≤ r325 := Nat.le_trans Kp322.1 sz325
      have ne_b2_r325 : b2 ≠ r325 := Nat.ne_of_lt (Nat.lt_of_lt_of_le Vf314.lt sz325)
      have ne_b228_r325 : b228 ≠ r325 := Nat.ne_of_lt (Nat.lt_of_lt_of_le Ef315.lt sz325)
      have ne_tA_r325 : tA ≠ r325 := Nat.ne_of_lt (Nat.lt_of_lt_of_le Ef317.lt sz325)
      have ne_b257_r325 : b257 ≠ r325 := Nat.ne_of_lt (Nat.lt_of_lt_of_le Ef319.lt sz325)
      have ne_b266_r325 : b266 ≠ r325 := Nat.ne_of_lt (Nat.lt_of_lt_of_le Vf320.lt sz325)
      have ne_r296_r325 : r296 ≠ r325 := Nat.ne_of_lt (Nat.lt_of_lt_of_le V313.lt sz325)
      have ac336 : ∀ t, Steps p.tables e below (T325.setTop (mkF m 225 #[.val (.int p1), .val (.int p2), .val (.int p3), .val (.int p4), .val (.ref b2), .val (.ref r10), .val (.int (2 : Int32)), .val (.ref b228), .val (.ref tA), .val (.int (own_off (p4 &&& (16 : Int32)))), .val (.ref b257), .val (.ref r296), .unset] [(.ref r325)])) t → Steps p.tables e below (s₁.setTop (entryFrame m #[(.int p1), (.int p2), (.int p3), (.int p4)] maxLocals)) t := fun t k => ac324 t (st325.trans k)
      have ac337 : ∀ t, Steps p.tables e below (T325.setTop (mkF m 252 #[.val (.int p1), .val (.int p2), .val (.int p3), .val (.int p4), .val (.ref b2), .val (.ref r10), .val (.int (2 : Int32)), .val (.ref b228), .val (.ref tA), .val (.int (own_off (p4 &&& (16 : Int32)))), .val (.ref b257), .val (.ref r296), .val (.ref r325)] [(.int p2), (.int p1), (.int (2 : Int32)), (.ref r325)])) t → Steps p.tables e below (s₁.setTop (entryFrame m #[(.int p1), (.int p2), (.int p3), (.int p4)] maxLocals)) t := fun t k => ac336 t (by
          show Steps p.tables e below (T325.setTop (mkF m 225 #[.val (.int p1), .val (.int p2), .val (.int p3), .val (.int p4), .val (.ref b2), .val (.ref r10), .val (.int (2 : Int32)), .val (.ref b228), .val (.ref tA), .val (.int (own_off (p4 &&& (16 : Int32)))), .val (.ref b257), .val (.ref r296), .unset] [(.ref r325)])) _
          refine XS.astore X325.here hx rfl (hb hby at_225) rfl rfl (l' := #[.val (.int p1), .val (.int p2), .val (.int p3), .val (.int p4), .val (.ref b2), .val (.ref r10), .val (.int (2 : Int32)), .val (.ref b228), .val (.ref tA), .val (.int (own_off (p4 &&& (16 : Int32)))), .val (.ref b257), .val (.ref r296), .val (.ref r325)]) rfl ?_
          show Steps p.tables e below (T325.setTop (mkF m 227 #[.val (.int p1), .val (.int p2), .val (.int p3), .val (.int p4), .val (.ref b2), .val (.ref r10), .val (.int (2 : Int32)), .val (.ref b228), .val (.ref tA), .val (.int (own_off (p4 &&& (16 : Int32)))), .val (.ref b257), .val (.ref r296), .val (.ref r325)] [])) _
          refine XS.aload X325.here hx rfl (hb hby at_227) rfl rfl ?_
          show Steps p.tables e below (T325.setTop (mkF m 229 #[.val (.int p1), .val (.int p2), .val (.int p3), .val (.int p4), .val (.ref b2), .val (.ref r10), .val (.int (2 : Int32)), .val (.ref b228), .val (.ref tA), .val (.int (own_off (p4 &&& (16 : Int32)))), .val (.ref b257), .val (.ref r296), .val (.ref r325)] [(.ref r325)])) _
          refine XS.ifnullNo X325.here hx rfl (hb hby at_229) rfl ?_
          show Steps p.tables e below (T325.setTop (mkF m 232 #[.val (.int p1), .val (.int p2), .val (.int p3), .val (.int p4), .val (.ref b2), .val (.ref r10), .val (.int (2 : Int32)), .val (.ref b228), .val (.ref tA), .val (.int (own_off (p4 &&& (16 : Int32)))), .val (.ref b257), .val (.ref r296), .val (.ref r325)] [])) _
          refine XS.aload X325.here hx rfl (hb hby at_232) rfl rfl ?_
          show Steps p.tables e below (T325.setTop (mkF m 234 #[.val (.int p1), .val (.int p2), .val (.int p3), .val (.int p4), .val (.ref b2), .val (.ref r10), .val (.int (2 : Int32)), .val (.ref b228), .val (.ref tA), .val (.int (own_off (p4 &&& (16 : Int32)))), .val (.ref b257), .val (.ref r296), .val (.ref r325)] [(.ref r325)])) _
          refine XS.aload X325.here hx rfl (hb hby at_234) rfl rfl ?_
          show Steps p.tables e below (T325.setTop (mkF m 236 #[.val (.int p1), .val (.int p2), .val (.int p3), .val (.int p4), .val (.ref b2), .val (.ref r10), .val (.int (2 : Int32)), .val (.ref b228), .val (.ref tA), .val (.int (own_off (p4 &&& (16 : Int32)))), .val (.ref b257), .val (.ref r296), .val (.ref r325)] [(.ref r296), (.ref r325)])) _
          refine Jvm.RoadKit.acmp (g := (mkF m 236 #[.val (.int p1), .val (.int p2), .val (.int p3), .val (.int p4), .val (.ref b2), .val (.ref r10), .val (.int (2 : Int32)), .val (.ref b228), .val (.ref tA), .val (.int (own_off (p4 &&& (16 : Int32)))), .val (.ref b257), .val (.ref r296), .val (.ref r325)] [(.ref r296), (.ref r325)])) X325 hx rfl rfl rfl (pc0 := 236) (pc' := 239) (same := false) rfl (hb hby at_236) rfl (decide_eq_false fun q => (Ne.symm ne_r296_r325) (Value.ref.inj q)) (by decide) (by decide) ?_
          show Steps p.tables e below (T325.setTop (mkF m 239 #[.val (.int p1), .val (.int p2), .val (.int p3), .val (.int p4), .val (.ref b2), .val (.ref r10), .val (.int (2 : Int32)), .val (.ref b228), .val (.ref tA), .val (.int (own_off (p4 &&& (16 : Int32)))), .val (.ref b257), .val (.ref r296), .val (.ref r325)] [])) _
          refine XS.aload X325.here hx rfl (hb hby at_239) rfl rfl ?_
          show Steps p.tables e below (T325.setTop (mkF m 241 #[.val (.int p1), .val (.int p2), .val (.int p3), .val (.int p4), .val (.ref b2), .val (.ref r10), .val (.int (2 : Int32)), .val (.ref b228), .val (.ref tA), .val (.int (own_off (p4 &&& (16 : Int32)))), .val (.ref b257), .val (.ref r296), .val (.ref r325)] [(.ref r325)])) _
          refine XS.aload X325.here hx rfl (hb hby at_241) rfl rfl ?_
          show Steps p.tables e below (T325.setTop (mkF m 243 #[.val (.int p1), .val (.int p2), .val (.int p3), .val (.int p4), .val (.ref b2), .val (.ref r10), .val (.int (2 : Int32)), .val (.ref b228), .val (.ref tA), .val (.int (own_off (p4 &&& (16 : Int32)))), .val (.ref b257), .val (.ref r296), .val (.ref r325)] [(.ref b228), (.ref r325)])) _
          refine Jvm.RoadKit.acmp (g := (mkF m 243 #[.val (.int p1), .val (.int p2), .val (.int p3), .val (.int p4), .val (.ref b2), .val (.ref r10), .val (.int (2 : Int32)), .val (.ref b228), .val (.ref tA), .val (.int (own_off (p4 &&& (16 : Int32)))), .val (.ref b257), .val (.ref r296), .val (.ref r325)] [(.ref b228), (.ref r325)])) X325 hx rfl rfl rfl (pc0 := 243) (pc' := 246) (same := false) rfl (hb hby at_243) rfl (decide_eq_false fun q => (Ne.symm ne_b228_r325) (Value.ref.inj q)) (by decide) (by decide) ?_
          show Steps p.tables e below (T325.setTop (mkF m 246 #[.val (.int p1), .val (.int p2), .val (.int p3), .val (.int p4), .val (.ref b2), .val (.ref r10), .val (.int (2 : Int32)), .val (.ref b228), .val (.ref tA), .val (.int (own_off (p4 &&& (16 : Int32)))), .val (.ref b257), .val (.ref r296), .val (.ref r325)] [])) _
          refine XS.aload X325.here hx rfl (hb hby at_246) rfl rfl ?_
          show Steps p.tables e below (T325.setTop (mkF m 248 #[.val (.int p1), .val (.int p2), .val (.int p3), .val (.int p4), .val (.ref b2), .val (.ref r10), .val (.int (2 : Int32)), .val (.ref b228), .val (.ref tA), .val (.int (own_off (p4 &&& (16 : Int32)))), .val (.ref b257), .val (.ref r296), .val (.ref r325)] [(.ref r325)])) _
          refine XS.iload X325.here hx rfl (hb hby at_248) rfl ?_
          show Steps p.tables e below (T325.setTop (mkF m 250 #[.val (.int p1), .val (.int p2), .val (.int p3), .val (.int p4), .val (.ref b2), .val (.ref r10), .val (.int (2 : Int32)), .val (.ref b228), .val (.ref tA), .val (.int (own_off (p4 &&& (16 : Int32)))), .val (.ref b257), .val (.ref r296), .val (.ref r325)] [(.int (2 : Int32)), (.ref r325)])) _
          refine XS.iloadN X325.here hx rfl (hb hby at_250) rfl ?_
          show Steps p.tables e below (T325.setTop (mkF m 251 #[.val (.int p1), .val (.int p2), .val (.int p3), .val (.int p4), .val (.ref b2), .val (.ref r10), .val (.int (2 : Int32)), .val (.ref b228), .val (.ref tA), .val (.int (own_off (p4 &&& (16 : Int32)))), .val (.ref b257), .val (.ref r296), .val (.ref r325)] [(.int p1), (.int (2 : Int32)), (.ref r325)])) _
          refine XS.iloadN X325.here hx rfl (hb hby at_251) rfl ?_
          exact k)
      obtain ⟨_, _, ⟨T338, L338, k338, n338⟩, -, X338, ⟨Lc338, hQ338, l338, y338, z338⟩, st338⟩ := Jvm.LawKit.callS X325 hx (y := (⟨"com/example/votal/votal/log/LogRecordGetDigestPinLaw", "same", "([BIII)Z"⟩ : MethodName)) hown (mvT hZ (hw _ (List.mem_of_getElem? (i := 80) rfl))) (mvT hZ (hw _ (List.mem_of_getElem? (i := 81) rfl))) (mvT hZ (hw _ (List.mem_of_getElem? (i := 82) rfl))) (mvT hZ (hw _ (List.mem_of_getElem? (i := 83) rfl))) (by decide) (backOf (W := 0) (rm10_2 l Z a0 hw [] r325 (2 : Int32) p1 p2 _ T325.heap n0 Z325 Vr325 rfl rfl rfl) hZ (hw _ (List.mem_of_getElem? (i := 83) rfl)) (hw _ (List.mem_of_getElem? (i := 82) rfl)) (by decide) (by decide)) (g := (mkF m 252 #[.val (.int p1), .val (.int p2), .val (.int p3), .val (.int p4), .val (.ref b2), .val (.ref r10), .val (.int (2 : Int32)), .val (.ref b228), .val (.ref tA), .val (.int (own_off (p4 &&& (16 : Int32)))), .val (.ref b257), .val (.ref r296), .val (.ref r325)] [(.int p2), (.int p1), (.int (2 : Int32)), (.ref r325)])) rfl (by rw [hml]; rfl) (argsL := [(.ref r325), (.int (2 : Int32)), (.int p1), (.int p2)]) (rest := []) (lenOf pd_10 rfl) rfl (by show 2 * 0 + _ ≤ _; exact Nat.le_of_eq rfl) (hb hby at_252) (fun _ _ => ⟨rfl, rfl, (by decide : 8 + 0 ≤ _), (by decide : 43 + 0 ≤ _)⟩)
      dsimp only [Pt.U, Pt.locs, Pt.cells, Pt.slots] at X338 l338 y338 z338 st338 hQ338
      subst l338 y338 z338
      obtain ⟨rfl, N338q, Qe338⟩ := hQ338
      have N338 := Fr.app N325 N338q
      have ac339 : ∀ t, Steps p.tables e below (T338.setTop (mkF m 255 #[.val (.int p1), .val (.int p2), .val (.int p3), .val (.int p4), .val (.ref b2), .val (.ref r10), .val (.int (2 : Int32)), .val (.ref b228), .val (.ref tA), .val (.int (own_off (p4 &&& (16 : Int32)))), .val (.ref b257), .val (.ref r296), .val (.ref r325)] [(.int (1 : Int32))])) t → Steps p.tables e below (s₁.setTop (entryFrame m #[(.int p1), (.int p2), (.int p3), (.int p4)] maxLocals)) t := fun t k => ac337 t (st338 t k)
      have ac340 : ∀ t, Steps p.tables e below (T338.setTop (mkF m 263 #[.val (.int p1), .val (.int p2), .val (.int p3), .val (.int p4), .val (.ref b2), .val (.ref r10), .val (.int (2 : Int32)), .val (.ref b228), .val (.ref tA), .val (.int (own_off (p4 &&& (16 : Int32)))), .val (.ref b257), .val (.ref r296), .val (.ref r325)] [(.int (1 : Int32))])) t → Steps p.tables e below (s₁.setTop (entryFrame m #[(.int p1), (.int p2), (.int p3), (.int p4)] maxLocals)) t := fun t k => ac339 t (by
          show Steps p.tables e below (T338.setTop (mkF m 255 #[.val (.int p1), .val (.int p2), .val (.int p3), .val (.int p4), .val (.ref b2), .val (.ref r10), .val (.int (2 : Int32)), .val (.ref b228), .val (.ref tA), .val (.int (own_off (p4 &&& (16 : Int32)))), .val (.ref b257), .val (.ref r296), .val (.ref r325)] [(.int (1 : Int32))])) _
          refine XS.ifNo X338.here hx rfl (hb hby at_255) rfl ((if0 _ _).trans (feq (by decide)).1) ?_
          show Steps p.tables e below (T338.setTop (mkF m 258 #[.val (.int p1), .val (.int p2), .val (.int p3), .val (.int p4), .val (.ref b2), .val (.ref r10), .val (.int (2 : Int32)), .val (.ref b228), .val (.ref tA), .val (.int (own_off (p4 &&& (16 : Int32)))), .val (.ref b257), .val (.ref r296), .val (.ref r325)] [])) _
          refine XS.iconst X338.here hx rfl (hb hby at_258) ?_
          show Steps p.tables e below (T338.setTop (mkF m 259 #[.val (.int p1), .val (.int p2), .val (.int p3), .val (.int p4), .val (.ref b2), .val (.ref r10), .val (.int (2 : Int32)), .val (.ref b228), .val (.ref tA), .val (.int (own_off (p4 &&& (16 : Int32)))), .val (.ref b257), .val (.ref r296), .val (.ref r325)] [(.int (1 : Int32))])) _
          refine XS.goto X338.here hx rfl (pc0 := 259) (pc' := 263) rfl (hb hby at_259) (by decide) (by decide) ?_
          exact k)
      obtain ⟨fs, hr, hrun, hended, hW, hsame⟩ := X338.leave (v := some (.int (1 : Int32))) (fun h => by rw [Bd.returns] at h; cases h) (BodyLoose.notSynchronized Bd)
      refine ⟨_, _, ac340 _ ?_, hrun, hended, _, _, rfl, ?_, ⟨_, rfl⟩, hW, hsame.mono (by decide) (by decide)⟩
      · show Steps p.tables e below (T338.setTop (mkF m 263 #[.val (.int p1), .val (.int p2), .val (.int p3), .val (.int p4), .val (.ref b2), .val (.ref r10), .val (.int (2 : Int32)), .val (.ref b228), .val (.ref tA), .val (.int (own_off (p4 &&& (16 : Int32)))), .val (.ref b257), .val (.ref r296), .val (.ref r325)] [(.int (1 : Int32))])) _
        exact retN X338 hx (t := .boolean) Bd.returns (by simp) (hb hby at_263) hr
      · show Q0 Z p1 p2 p3 p4 cs tN tB nN nB h0 n0 _ T338.heap _
        rw [Qe338]
        exact ⟨rfl, N338⟩
    ·
      rw [hl] at ac30
      have ac341 : ∀ t, Steps p.tables e below (T10.setTop (mkF m 71 #[.val (.int p1), .val (.int p2), .val (.int p3), .val (.int p4), .val (.ref b2), .val (.ref r10), .val (.int (3 : Int32)), .unset, .unset, .unset, .unset, .unset, .unset] [(.int (3 : Int32))])) t → Steps p.tables e below (s₁.setTop (entryFrame m #[(.int p1), (.int p2), (.int p3), (.int p4)] maxLocals)) t := fun t k => ac30 t (by
          show Steps p.tables e below (T10.setTop (mkF m 69 #[.val (.int p1), .val (.int p2), .val (.int p3), .val (.int p4), .val (.ref b2), .val (.ref r10), .val (.int (3 : Int32)), .unset, .unset, .unset, .unset, .unset, .unset] [])) _
          refine XS.iload X10.here hx rfl (hb hby at_69) rfl ?_
          exact k)
      obtain ⟨T342, h342, k342, X342, e342, E342, A342, Ea342, st342⟩ := newPE X10 hx hZ (hw _ (List.mem_of_getElem? (i := 0) rfl)) rfl (g := (mkF m 71 #[.val (.int p1), .val (.int p2), .val (.int p3), .val (.int p4), .val (.ref b2), .val (.ref r10), .val (.int (3 : Int32)), .unset, .unset, .unset, .unset, .unset, .unset] [(.int (3 : Int32))])) rfl (hb hby at_71) rfl (by decide) (cap := 3) (by decide) (by decide) (by decide) (by decide) (ad := "[B") (by decide)
      obtain ⟨b342, g342⟩ : ∃ z, z = T10.heap.size := ⟨_, rfl⟩
      rw [← g342] at A342 st342 Ea342
      have g_b342 : n0 ≤ b342 := Nat.le_trans Z10 (Nat.le_of_eq g342.symm)
      have sz_b342 : h0.size ≤ b342 := Nat.le_trans Kp12.1 (Nat.le_of_eq g342.symm)
      have ne_b2_b342 : b2 ≠ b342 := Nat.ne_of_lt (Nat.lt_of_lt_of_le Vf11.lt (Nat.le_of_eq g342.symm))
      have Vf343 := Vf11.ext E342
      have Z342 : n0 ≤ h342.size := Nat.le_trans Z10 E342.1
      have Kp344 : Keep h0 h342 [] := Kp12.ext E342
      have V342 : own_Ar Z h342 b342 .byte 3 (fun _ => (.int (0 : Int32))) := own_Ar.new A342 rfl
      have ac345 : ∀ t, Steps p.tables e below (T342.setTop (mkF m 73 #[.val (.int p1), .val (.int p2), .val (.int p3), .val (.int p4), .val (.ref b2), .val (.ref r10), .val (.int (3 : Int32)), .unset, .unset, .unset, .unset, .unset, .unset] [(.ref b342)])) t → Steps p.tables e below (s₁.setTop (entryFrame m #[(.int p1), (.int p2), (.int p3), (.int p4)] maxLocals)) t := fun t k => ac341 t (st342 t k)
      have ac346 : ∀ t, Steps p.tables e below (T342.setTop (mkF m 85 #[.val (.int p1), .val (.int p2), .val (.int p3), .val (.int p4), .val (.ref b2), .val (.ref r10), .val (.int (3 : Int32)), .val (.ref b342), .unset, .unset, .unset, .unset, .unset] [(.int (p1.toInt8.toInt32)), (.int (0 : Int32)), (.ref b342)])) t → Steps p.tables e below (s₁.setTop (entryFrame m #[(.int p1), (.int p2), (.int p3), (.int p4)] maxLocals)) t := fun t k => ac345 t (by
          show Steps p.tables e below (T342.setTop (mkF m 73 #[.val (.int p1), .val (.int p2), .val (.int p3), .val (.int p4), .val (.ref b2), .val (.ref r10), .val (.int (3 : Int32)), .unset, .unset, .unset, .unset, .unset, .unset] [(.ref b342)])) _
          refine XS.astore X342.here hx rfl (hb hby at_73) rfl rfl (l' := #[.val (.int p1), .val (.int p2), .val (.int p3), .val (.int p4), .val (.ref b2), .val (.ref r10), .val (.int (3 : Int32)), .val (.ref b342), .unset, .unset, .unset, .unset, .unset]) rfl ?_
          show Steps p.tables e below (T342.setTop (mkF m 75 #[.val (.int p1), .val (.int p2), .val (.int p3), .val (.int p4), .val (.ref b2), .val (.ref r10), .val (.int (3 : Int32)), .val (.ref b342), .unset, .unset, .unset, .unset, .unset] [])) _
          refine XS.iload X342.here hx rfl (hb hby at_75) rfl ?_
          show Steps p.tables e below (T342.setTop (mkF m 77 #[.val (.int p1), .val (.int p2), .val (.int p3), .val (.int p4), .val (.ref b2), .val (.ref r10), .val (.int (3 : Int32)), .val (.ref b342), .unset, .unset, .unset, .unset, .unset] [(.int (3 : Int32))])) _
          refine XS.ifNo X342.here hx rfl (hb hby at_77) rfl ((if0 _ _).trans (tlt (by decide)).2.2.2) ?_
          show Steps p.tables e below (T342.setTop (mkF m 80 #[.val (.int p1), .val (.int p2), .val (.int p3), .val (.int p4), .val (.ref b2), .val (.ref r10), .val (.int (3 : Int32)), .val (.ref b342), .unset, .unset, .unset, .unset, .unset] [])) _
          refine XS.aload X342.here hx rfl (hb hby at_80) rfl rfl ?_
          show Steps p.tables e below (T342.setTop (mkF m 82 #[.val (.int p1), .val (.int p2), .val (.int p3), .val (.int p4), .val (.ref b2), .val (.ref r10), .val (.int (3 : Int32)), .val (.ref b342), .unset, .unset, .unset, .unset, .unset] [(.ref b342)])) _
          refine XS.iconst X342.here hx rfl (hb hby at_82) ?_
          show Steps p.tables e below (T342.setTop (mkF m 83 #[.val (.int p1), .val (.int p2), .val (.int p3), .val (.int p4), .val (.ref b2), .val (.ref r10), .val (.int (3 : Int32)), .val (.ref b342), .unset, .unset, .unset, .unset, .unset] [(.int (0 : Int32)), (.ref b342)])) _
          refine XS.iloadN X342.here hx rfl (hb hby at_83) rfl ?_
          show Steps p.tables e below (T342.setTop (mkF m 84 #[.val (.int p1), .val (.int p2), .val (.int p3), .val (.int p4), .val (.ref b2), .val (.ref r10), .val (.int (3 : Int32)), .val (.ref b342), .unset, .unset, .unset, .unset, .unset] [(.int p1), (.int (0 : Int32)), (.ref b342)])) _
          refine XS.i2b X342.here hx rfl (hb hby at_84) rfl ?_
          exact k)
      obtain ⟨cl347, Ac347, hin347, -⟩ := V342.at (j := (0 : Int32)) (i := 0) rfl (by decide)
      obtain ⟨T347, h347, X347, e347, W347, st347⟩ := stB X342 hx hZ e342 Ac347 (j := (0 : Int32)) hin347 (g := (mkF m 85 #[.val (.int p1), .val (.int p2), .val (.int p3), .val (.int p4), .val (.ref b2), .val (.ref r10), .val (.int (3 : Int32)), .val (.ref b342), .unset, .unset, .unset, .unset, .unset] [(.int (p1.toInt8.toInt32)), (.int (0 : Int32)), (.ref b342)])) rfl rfl (hb hby at_85)
      have V347 := V342.set (i := 0) rfl W347 (fits_nar_byte _)
      have Vf348 := Vf343.other W347 ne_b2_b342
      have Ef349 := Ea342.wr W347
      have N347 := Fr.snoc X347 N10 g_b342
      have Z347 : n0 ≤ h347.size := Nat.le_trans Z342 (Keep.of_wr W347).1
      have Kp350 : Keep h0 h347 [] := Kp344.wr W347 (Or.inr sz_b342)
      have ac351 : ∀ t, Steps p.tables e below (T347.setTop (mkF m 86 #[.val (.int p1), .val (.int p2), .val (.int p3), .val (.int p4), .val (.ref b2), .val (.ref r10), .val (.int (3 : Int32)), .val (.ref b342), .unset, .unset, .unset, .unset, .unset] [])) t → Steps p.tables e below (s₁.setTop (entryFrame m #[(.int p1), (.int p2), (.int p3), (.int p4)] maxLocals)) t := fun t k => ac346 t (st347 t k)
      have ac352 : ∀ t, Steps p.tables e below (T347.setTop (mkF m 100 #[.val (.int p1), .val (.int p2), .val (.int p3), .val (.int p4), .val (.ref b2), .val (.ref r10), .val (.int (3 : Int32)), .val (.ref b342), .unset, .unset, .unset, .unset, .unset] [(.int (((p1.toUInt32 >>> ((8 : Int32) &&& 31).toUInt32).toInt32).toInt8.toInt32)), (.int (1 : Int32)), (.ref b342)])) t → Steps p.tables e below (s₁.setTop (entryFrame m #[(.int p1), (.int p2), (.int p3), (.int p4)] maxLocals)) t := fun t k => ac351 t (by
          show Steps p.tables e below (T347.setTop (mkF m 86 #[.val (.int p1), .val (.int p2), .val (.int p3), .val (.int p4), .val (.ref b2), .val (.ref r10), .val (.int (3 : Int32)), .val (.ref b342), .unset, .unset, .unset, .unset, .unset] [])) _
          refine XS.iload X347.here hx rfl (hb hby at_86) rfl ?_
          show Steps p.tables e below (T347.setTop (mkF m 88 #[.val (.int p1), .val (.int p2), .val (.int p3), .val (.int p4), .val (.ref b2), .val (.ref r10), .val (.int (3 : Int32)), .val (.ref b342), .unset, .unset, .unset, .unset, .unset] [(.int (3 : Int32))])) _
          refine XS.iconst X347.here hx rfl (hb hby at_88) ?_
          show Steps p.tables e below (T347.setTop (mkF m 89 #[.val (.int p1), .val (.int p2), .val (.int p3), .val (.int p4), .val (.ref b2), .val (.ref r10), .val (.int (3 : Int32)), .val (.ref b342), .unset, .unset, .unset, .unset, .unset] [(.int (1 : Int32)), (.int (3 : Int32))])) _
          refine XS.icmpNo X347.here hx rfl (hb hby at_89) rfl (tlt (by decide)).2.2.2 ?_
          show Steps p.tables e below (T347.setTop (mkF m 92 #[.val (.int p1), .val (.int p2), .val (.int p3), .val (.int p4), .val (.ref b2), .val (.ref r10), .val (.int (3 : Int32)), .val (.ref b342), .unset, .unset, .unset, .unset, .unset] [])) _
          refine XS.aload X347.here hx rfl (hb hby at_92) rfl rfl ?_
          show Steps p.tables e below (T347.setTop (mkF m 94 #[.val (.int p1), .val (.int p2), .val (.int p3), .val (.int p4), .val (.ref b2), .val (.ref r10), .val (.int (3 : Int32)), .val (.ref b342), .unset, .unset, .unset, .unset, .unset] [(.ref b342)])) _
          refine XS.iconst X347.here hx rfl (hb hby at_94) ?_
          show Steps p.tables e below (T347.setTop (mkF m 95 #[.val (.int p1), .val (.int p2), .val (.int p3), .val (.int p4), .val (.ref b2), .val (.ref r10), .val (.int (3 : Int32)), .val (.ref b342), .unset, .unset, .unset, .unset, .unset] [(.int (1 : Int32)), (.ref b342)])) _
          refine XS.iloadN X347.here hx rfl (hb hby at_95) rfl ?_
          show Steps p.tables e below (T347.setTop (mkF m 96 #[.val (.int p1), .val (.int p2), .val (.int p3), .val (.int p4), .val (.ref b2), .val (.ref r10), .val (.int (3 : Int32)), .val (.ref b342), .unset, .unset, .unset, .unset, .unset] [(.int p1), (.int (1 : Int32)), (.ref b342)])) _
          refine XS.bipush X347.here hx rfl (hb hby at_96) ?_
          show Steps p.tables e below (T347.setTop (mkF m 98 #[.val (.int p1), .val (.int p2), .val (.int p3), .val (.int p4), .val (.ref b2), .val (.ref r10), .val (.int (3 : Int32)), .val (.ref b342), .unset, .unset, .unset, .unset, .unset] [(.int (8 : Int32)), (.int p1), (.int (1 : Int32)), (.ref b342)])) _
          refine XS.iushr X347.here hx rfl (hb hby at_98) rfl ?_
          show Steps p.tables e below (T347.setTop (mkF m 99 #[.val (.int p1), .val (.int p2), .val (.int p3), .val (.int p4), .val (.ref b2), .val (.ref r10), .val (.int (3 : Int32)), .val (.ref b342), .unset, .unset, .unset, .unset, .unset] [(.int ((p1.toUInt32 >>> ((8 : Int32) &&& 31).toUInt32).toInt32)), (.int (1 : Int32)), (.ref b342)])) _
          refine XS.i2b X347.here hx rfl (hb hby at_99) rfl ?_
          exact k)
      obtain ⟨cl353, Ac353, hin353, -⟩ := V347.at (j := (1 : Int32)) (i := 1) rfl (by decide)
      obtain ⟨T353, h353, X353, e353, W353, st353⟩ := stB X347 hx hZ e347 Ac353 (j := (1 : Int32)) hin353 (g := (mkF m 100 #[.val (.int p1), .val (.int p2), .val (.int p3), .val (.int p4), .val (.ref b2), .val (.ref r10), .val (.int (3 : Int32)), .val (.ref b342), .unset, .unset, .unset, .unset, .unset] [(.int (((p1.toUInt32 >>> ((8 : Int32) &&& 31).toUInt32).toInt32).toInt8.toInt32)), (.int (1 : Int32)), (.ref b342)])) rfl rfl (hb hby at_100)
      have V353 := V347.set (i := 1) rfl W353 (fits_nar_byte _)
      have Vf354 := Vf348.other W353 ne_b2_b342
      have Ef355 := Ef349.wr W353
      have N353 := Fr.snoc X353 N347 g_b342
      have Z353 : n0 ≤ h353.size := Nat.le_trans Z347 (Keep.of_wr W353).1
      have Kp356 : Keep h0 h353 [] := Kp350.wr W353 (Or.inr sz_b342)
      have ac357 : ∀ t, Steps p.tables e below (T353.setTop (mkF m 101 #[.val (.int p1), .val (.int p2), .val (.int p3), .val (.int p4), .val (.ref b2), .val (.ref r10), .val (.int (3 : Int32)), .val (.ref b342), .unset, .unset, .unset, .unset, .unset] [])) t → Steps p.tables e below (s₁.setTop (entryFrame m #[(.int p1), (.int p2), (.int p3), (.int p4)] maxLocals)) t := fun t k => ac352 t (st353 t k)
      have ac358 : ∀ t, Steps p.tables e below (T353.setTop (mkF m 112 #[.val (.int p1), .val (.int p2), .val (.int p3), .val (.int p4), .val (.ref b2), .val (.ref r10), .val (.int (3 : Int32)), .val (.ref b342), .unset, .unset, .unset, .unset, .unset] [(.int (p2.toInt8.toInt32)), (.int (2 : Int32)), (.ref b342)])) t → Steps p.tables e below (s₁.setTop (entryFrame m #[(.int p1), (.int p2), (.int p3), (.int p4)] maxLocals)) t := fun t k => ac357 t (by
          show Steps p.tables e below (T353.setTop (mkF m 101 #[.val (.int p1), .val (.int p2), .val (.int p3), .val (.int p4), .val (.ref b2), .val (.ref r10), .val (.int (3 : Int32)), .val (.ref b342), .unset, .unset, .unset, .unset, .unset] [])) _
          refine XS.iload X353.here hx rfl (hb hby at_101) rfl ?_
          show Steps p.tables e below (T353.setTop (mkF m 103 #[.val (.int p1), .val (.int p2), .val (.int p3), .val (.int p4), .val (.ref b2), .val (.ref r10), .val (.int (3 : Int32)), .val (.ref b342), .unset, .unset, .unset, .unset, .unset] [(.int (3 : Int32))])) _
          refine XS.iconst X353.here hx rfl (hb hby at_103) ?_
          show Steps p.tables e below (T353.setTop (mkF m 104 #[.val (.int p1), .val (.int p2), .val (.int p3), .val (.int p4), .val (.ref b2), .val (.ref r10), .val (.int (3 : Int32)), .val (.ref b342), .unset, .unset, .unset, .unset, .unset] [(.int (2 : Int32)), (.int (3 : Int32))])) _
          refine XS.icmpNo X353.here hx rfl (hb hby at_104) rfl (tlt (by decide)).2.2.2 ?_
          show Steps p.tables e below (T353.setTop (mkF m 107 #[.val (.int p1), .val (.int p2), .val (.int p3), .val (.int p4), .val (.ref b2), .val (.ref r10), .val (.int (3 : Int32)), .val (.ref b342), .unset, .unset, .unset, .unset, .unset] [])) _
          refine XS.aload X353.here hx rfl (hb hby at_107) rfl rfl ?_
          show Steps p.tables e below (T353.setTop (mkF m 109 #[.val (.int p1), .val (.int p2), .val (.int p3), .val (.int p4), .val (.ref b2), .val (.ref r10), .val (.int (3 : Int32)), .val (.ref b342), .unset, .unset, .unset, .unset, .unset] [(.ref b342)])) _
          refine XS.iconst X353.here hx rfl (hb hby at_109) ?_
          show Steps p.tables e below (T353.setTop (mkF m 110 #[.val (.int p1), .val (.int p2), .val (.int p3), .val (.int p4), .val (.ref b2), .val (.ref r10), .val (.int (3 : Int32)), .val (.ref b342), .unset, .unset, .unset, .unset, .unset] [(.int (2 : Int32)), (.ref b342)])) _
          refine XS.iloadN X353.here hx rfl (hb hby at_110) rfl ?_
          show Steps p.tables e below (T353.setTop (mkF m 111 #[.val (.int p1), .val (.int p2), .val (.int p3), .val (.int p4), .val (.ref b2), .val (.ref r10), .val (.int (3 : Int32)), .val (.ref b342), .unset, .unset, .unset, .unset, .unset] [(.int p2), (.int (2 : Int32)), (.ref b342)])) _
          refine XS.i2b X353.here hx rfl (hb hby at_111) rfl ?_
          exact k)
      obtain ⟨cl359, Ac359, hin359, -⟩ := V353.at (j := (2 : Int32)) (i := 2) rfl (by decide)
      obtain ⟨T359, h359, X359, e359, W359, st359⟩ := stB X353 hx hZ e353 Ac359 (j := (2 : Int32)) hin359 (g := (mkF m 112 #[.val (.int p1), .val (.int p2), .val (.int p3), .val (.int p4), .val (.ref b2), .val (.ref r10), .val (.int (3 : Int32)), .val (.ref b342), .unset, .unset, .unset, .unset, .unset] [(.int (p2.toInt8.toInt32)), (.int (2 : Int32)), (.ref b342)])) rfl rfl (hb hby at_112)
      have V359 := V353.set (i := 2) rfl W359 (fits_nar_byte _)
      have Vf360 := Vf354.other W359 ne_b2_b342
      have Ef361 := Ef355.wr W359
      have N359 := Fr.snoc X359 N353 g_b342
      have Z359 : n0 ≤ h359.size := Nat.le_trans Z353 (Keep.of_wr W359).1
      have Kp362 : Keep h0 h359 [] := Kp356.wr W359 (Or.inr sz_b342)
      have ac363 : ∀ t, Steps p.tables e below (T359.setTop (mkF m 113 #[.val (.int p1), .val (.int p2), .val (.int p3), .val (.int p4), .val (.ref b2), .val (.ref r10), .val (.int (3 : Int32)), .val (.ref b342), .unset, .unset, .unset, .unset, .unset] [])) t → Steps p.tables e below (s₁.setTop (entryFrame m #[(.int p1), (.int p2), (.int p3), (.int p4)] maxLocals)) t := fun t k => ac358 t (st359 t k)
      have V364 : own_Ar Z h359 b342 .byte 3 (fun k => if k = 0 then .int (p1.toInt8.toInt32) else if k = 1 then .int (((p1.toUInt32 >>> ((8 : Int32) &&& 31).toUInt32).toInt32).toInt8.toInt32) else if k = 2 then .int (p2.toInt8.toInt32) else .int 0) := V359.eq (fun k hk => match k, hk with | 0, _ => congrArg Value.int (own_b2 _) | 1, _ => congrArg Value.int (own_b2 _) | 2, _ => congrArg Value.int (own_b2 _))
      have ac365 : ∀ t, Steps p.tables e below (T359.setTop (mkF m 117 #[.val (.int p1), .val (.int p2), .val (.int p3), .val (.int p4), .val (.ref b2), .val (.ref r10), .val (.int (3 : Int32)), .val (.ref b342), .unset, .unset, .unset, .unset, .unset] [(.int (p4 &&& (8 : Int32)))])) t → Steps p.tables e below (s₁.setTop (entryFrame m #[(.int p1), (.int p2), (.int p3), (.int p4)] maxLocals)) t := fun t k => ac363 t (by
          show Steps p.tables e below (T359.setTop (mkF m 113 #[.val (.int p1), .val (.int p2), .val (.int p3), .val (.int p4), .val (.ref b2), .val (.ref r10), .val (.int (3 : Int32)), .val (.ref b342), .unset, .unset, .unset, .unset, .unset] [])) _
          refine XS.iloadN X359.here hx rfl (hb hby at_113) rfl ?_
          show Steps p.tables e below (T359.setTop (mkF m 114 #[.val (.int p1), .val (.int p2), .val (.int p3), .val (.int p4), .val (.ref b2), .val (.ref r10), .val (.int (3 : Int32)), .val (.ref b342), .unset, .unset, .unset, .unset, .unset] [(.int p4)])) _
          refine XS.bipush X359.here hx rfl (hb hby at_114) ?_
          show Steps p.tables e below (T359.setTop (mkF m 116 #[.val (.int p1), .val (.int p2), .val (.int p3), .val (.int p4), .val (.ref b2), .val (.ref r10), .val (.int (3 : Int32)), .val (.ref b342), .unset, .unset, .unset, .unset, .unset] [(.int (8 : Int32)), (.int p4)])) _
          refine XS.iand X359.here hx rfl (hb hby at_116) rfl ?_
          exact k)
      obtain ⟨T366, tA, nA, X366, e366, EA, FA, ltA, ac366_⟩ : ∃ (T' : State) (tA : Addr) (nA : Addr), own_StT X359 T' ∧ T'.heap = h359 ∧ Exa Z h359 tA "com/example/votal/votal/log/Template" ∧ Fld Z h359 tA "com/example/votal/votal/log/Template" "mName" "Ljava/lang/String;" (.ref nA) ∧ tA < h0.size ∧ ∀ t, Steps p.tables e below (T'.setTop (mkF m 129 #[.val (.int p1), .val (.int p2), .val (.int p3), .val (.int p4), .val (.ref b2), .val (.ref r10), .val (.int (3 : Int32)), .val (.ref b342), .unset, .unset, .unset, .unset, .unset] [(.ref tA)])) t → Steps p.tables e below (s₁.setTop (entryFrame m #[(.int p1), (.int p2), (.int p3), (.int p4)] maxLocals)) t := by
        by_cases hm : (p4 &&& (8 : Int32)) = (0 : Int32)
        ·
          have ac367 : ∀ t, Steps p.tables e below (T359.setTop (mkF m 126 #[.val (.int p1), .val (.int p2), .val (.int p3), .val (.int p4), .val (.ref b2), .val (.ref r10), .val (.int (3 : Int32)), .val (.ref b342), .unset, .unset, .unset, .unset, .unset] [])) t → Steps p.tables e below (s₁.setTop (entryFrame m #[(.int p1), (.int p2), (.int p3), (.int p4)] maxLocals)) t := fun t k => ac365 t (by
              show Steps p.tables e below (T359.setTop (mkF m 117 #[.val (.int p1), .val (.int p2), .val (.int p3), .val (.int p4), .val (.ref b2), .val (.ref r10), .val (.int (3 : Int32)), .val (.ref b342), .unset, .unset, .unset, .unset, .unset] [(.int (p4 &&& (8 : Int32)))])) _
              refine XS.ifYes X359.here hx rfl (pc0 := 117) (pc' := 126) rfl (hb hby at_117) rfl ((if0 _ _).trans (teq hm).1) (by decide) (by decide) ?_
              exact k)
          obtain ⟨T368, X368, e368, st368⟩ := getS2 X359 hx hZ hown (host := "") (Or.inl (hw _ (List.mem_of_getElem? (i := 26) rfl))) Via.refl e359 (own_Sta_keep SN Kp362) (g := (mkF m 126 #[.val (.int p1), .val (.int p2), .val (.int p3), .val (.int p4), .val (.ref b2), .val (.ref r10), .val (.int (3 : Int32)), .val (.ref b342), .unset, .unset, .unset, .unset, .unset] [])) rfl (hb hby at_126)
          have ac369 : ∀ t, Steps p.tables e below (T368.setTop (mkF m 129 #[.val (.int p1), .val (.int p2), .val (.int p3), .val (.int p4), .val (.ref b2), .val (.ref r10), .val (.int (3 : Int32)), .val (.ref b342), .unset, .unset, .unset, .unset, .unset] [(.ref tN)])) t → Steps p.tables e below (s₁.setTop (entryFrame m #[(.int p1), (.int p2), (.int p3), (.int p4)] maxLocals)) t := fun t k => ac367 t (st368 t k)
          exact ⟨T368, tN, nN, X368, e368, (EN.keep Kp362), (FN.keep Kp362 nin0), EN.lt, ac369⟩
        ·
          have ac370 : ∀ t, Steps p.tables e below (T359.setTop (mkF m 120 #[.val (.int p1), .val (.int p2), .val (.int p3), .val (.int p4), .val (.ref b2), .val (.ref r10), .val (.int (3 : Int32)), .val (.ref b342), .unset, .unset, .unset, .unset, .unset] [])) t → Steps p.tables e below (s₁.setTop (entryFrame m #[(.int p1), (.int p2), (.int p3), (.int p4)] maxLocals)) t := fun t k => ac365 t (by
              show Steps p.tables e below (T359.setTop (mkF m 117 #[.val (.int p1), .val (.int p2), .val (.int p3), .val (.int p4), .val (.ref b2), .val (.ref r10), .val (.int (3 : Int32)), .val (.ref b342), .unset, .unset, .unset, .unset, .unset] [(.int (p4 &&& (8 : Int32)))])) _
              refine XS.ifNo X359.here hx rfl (hb hby at_117) rfl ((if0 _ _).trans (feq hm).1) ?_
              exact k)
          obtain ⟨T371, X371, e371, st371⟩ := getS2 X359 hx hZ hown (host := "") (Or.inl (hw _ (List.mem_of_getElem? (i := 87) rfl))) Via.refl e359 (own_Sta_keep SB Kp362) (g := (mkF m 120 #[.val (.int p1), .val (.int p2), .val (.int p3), .val (.int p4), .val (.ref b2), .val (.ref r10), .val (.int (3 : Int32)), .val (.ref b342), .unset, .unset, .unset, .unset, .unset] [])) rfl (hb hby at_120)
          have ac372 : ∀ t, Steps p.tables e below (T371.setTop (mkF m 123 #[.val (.int p1), .val (.int p2), .val (.int p3), .val (.int p4), .val (.ref b2), .val (.ref r10), .val (.int (3 : Int32)), .val (.ref b342), .unset, .unset, .unset, .unset, .unset] [(.ref tB)])) t → Steps p.tables e below (s₁.setTop (entryFrame m #[(.int p1), (.int p2), (.int p3), (.int p4)] maxLocals)) t := fun t k => ac370 t (st371 t k)
          have ac373 : ∀ t, Steps p.tables e below (T371.setTop (mkF m 129 #[.val (.int p1), .val (.int p2), .val (.int p3), .val (.int p4), .val (.ref b2), .val (.ref r10), .val (.int (3 : Int32)), .val (.ref b342), .unset, .unset, .unset, .unset, .unset] [(.ref tB)])) t → Steps p.tables e below (s₁.setTop (entryFrame m #[(.int p1), (.int p2), (.int p3), (.int p4)] maxLocals)) t := fun t k => ac372 t (by
              show Steps p.tables e below (T371.setTop (mkF m 123 #[.val (.int p1), .val (.int p2), .val (.int p3), .val (.int p4), .val (.ref b2), .val (.ref r10), .val (.int (3 : Int32)), .val (.ref b342), .unset, .unset, .unset, .unset, .unset] [(.ref tB)])) _
              refine XS.goto X371.here hx rfl (pc0 := 123) (pc' := 129) rfl (hb hby at_123) (by decide) (by decide) ?_
              exact k)
          exact ⟨T371, tB, nB, X371, e371, (EB.keep Kp362), (FB.keep Kp362 nin0), EB.lt, ac373⟩
      have ac374 : ∀ t, Steps p.tables e below (T366.setTop (mkF m 135 #[.val (.int p1), .val (.int p2), .val (.int p3), .val (.int p4), .val (.ref b2), .val (.ref r10), .val (.int (3 : Int32)), .val (.ref b342), .val (.ref tA), .unset, .unset, .unset, .unset] [(.int (p4 &&& (16 : Int32)))])) t → Steps p.tables e below (s₁.setTop (entryFrame m #[(.int p1), (.int p2), (.int p3), (.int p4)] maxLocals)) t := fun t k => ac366_ t (by
          show Steps p.tables e below (T366.setTop (mkF m 129 #[.val (.int p1), .val (.int p2), .val (.int p3), .val (.int p4), .val (.ref b2), .val (.ref r10), .val (.int (3 : Int32)), .val (.ref b342), .unset, .unset, .unset, .unset, .unset] [(.ref tA)])) _
          refine XS.astore X366.here hx rfl (hb hby at_129) rfl rfl (l' := #[.val (.int p1), .val (.int p2), .val (.int p3), .val (.int p4), .val (.ref b2), .val (.ref r10), .val (.int (3 : Int32)), .val (.ref b342), .val (.ref tA), .unset, .unset, .unset, .unset]) rfl ?_
          show Steps p.tables e below (T366.setTop (mkF m 131 #[.val (.int p1), .val (.int p2), .val (.int p3), .val (.int p4), .val (.ref b2), .val (.ref r10), .val (.int (3 : Int32)), .val (.ref b342), .val (.ref tA), .unset, .unset, .unset, .unset] [])) _
          refine XS.iloadN X366.here hx rfl (hb hby at_131) rfl ?_
          show Steps p.tables e below (T366.setTop (mkF m 132 #[.val (.int p1), .val (.int p2), .val (.int p3), .val (.int p4), .val (.ref b2), .val (.ref r10), .val (.int (3 : Int32)), .val (.ref b342), .val (.ref tA), .unset, .unset, .unset, .unset] [(.int p4)])) _
          refine XS.bipush X366.here hx rfl (hb hby at_132) ?_
          show Steps p.tables e below (T366.setTop (mkF m 134 #[.val (.int p1), .val (.int p2), .val (.int p3), .val (.int p4), .val (.ref b2), .val (.ref r10), .val (.int (3 : Int32)), .val (.ref b342), .val (.ref tA), .unset, .unset, .unset, .unset] [(.int (16 : Int32)), (.int p4)])) _
          refine XS.iand X366.here hx rfl (hb hby at_134) rfl ?_
          exact k)
      have ac375 : ∀ t, Steps p.tables e below (T366.setTop (mkF m 143 #[.val (.int p1), .val (.int p2), .val (.int p3), .val (.int p4), .val (.ref b2), .val (.ref r10), .val (.int (3 : Int32)), .val (.ref b342), .val (.ref tA), .unset, .unset, .unset, .unset] [(.int (own_off (p4 &&& (16 : Int32))))])) t → Steps p.tables e below (s₁.setTop (entryFrame m #[(.int p1), (.int p2), (.int p3), (.int p4)] maxLocals)) t := fun t k => ac374 t (by
          by_cases hm : (p4 &&& (16 : Int32)) = (0 : Int32)
          ·
            show Steps p.tables e below (T366.setTop (mkF m 135 #[.val (.int p1), .val (.int p2), .val (.int p3), .val (.int p4), .val (.ref b2), .val (.ref r10), .val (.int (3 : Int32)), .val (.ref b342), .val (.ref tA), .unset, .unset, .unset, .unset] [(.int (p4 &&& (16 : Int32)))])) _
            refine XS.ifYes X366.here hx rfl (pc0 := 135) (pc' := 142) rfl (hb hby at_135) rfl ((if0 _ _).trans (teq hm).1) (by decide) (by decide) ?_
            show Steps p.tables e below (T366.setTop (mkF m 142 #[.val (.int p1), .val (.int p2), .val (.int p3), .val (.int p4), .val (.ref b2), .val (.ref r10), .val (.int (3 : Int32)), .val (.ref b342), .val (.ref tA), .unset, .unset, .unset, .unset] [])) _
            refine XS.iconst X366.here hx rfl (hb hby at_142) ?_
            rw [own_off_0 hm] at k; exact k
          ·
            show Steps p.tables e below (T366.setTop (mkF m 135 #[.val (.int p1), .val (.int p2), .val (.int p3), .val (.int p4), .val (.ref b2), .val (.ref r10), .val (.int (3 : Int32)), .val (.ref b342), .val (.ref tA), .unset, .unset, .unset, .unset] [(.int (p4 &&& (16 : Int32)))])) _
            refine XS.ifNo X366.here hx rfl (hb hby at_135) rfl ((if0 _ _).trans (feq hm).1) ?_
            show Steps p.tables e below (T366.setTop (mkF m 138 #[.val (.int p1), .val (.int p2), .val (.int p3), .val (.int p4), .val (.ref b2), .val (.ref r10), .val (.int (3 : Int32)), .val (.ref b342), .val (.ref tA), .unset, .unset, .unset, .unset] [])) _
            refine XS.iconst X366.here hx rfl (hb hby at_138) ?_
            show Steps p.tables e below (T366.setTop (mkF m 139 #[.val (.int p1), .val (.int p2), .val (.int p3), .val (.int p4), .val (.ref b2), .val (.ref r10), .val (.int (3 : Int32)), .val (.ref b342), .val (.ref tA), .unset, .unset, .unset, .unset] [(.int (-1 : Int32))])) _
            refine XS.goto X366.here hx rfl (pc0 := 139) (pc' := 143) rfl (hb hby at_139) (by decide) (by decide) ?_
            rw [own_off_1 hm] at k; exact k)
      have ac376 : ∀ t, Steps p.tables e below (T366.setTop (mkF m 145 #[.val (.int p1), .val (.int p2), .val (.int p3), .val (.int p4), .val (.ref b2), .val (.ref r10), .val (.int (3 : Int32)), .val (.ref b342), .val (.ref tA), .val (.int (own_off (p4 &&& (16 : Int32)))), .unset, .unset, .unset] [])) t → Steps p.tables e below (s₁.setTop (entryFrame m #[(.int p1), (.int p2), (.int p3), (.int p4)] maxLocals)) t := fun t k => ac375 t (by
          show Steps p.tables e below (T366.setTop (mkF m 143 #[.val (.int p1), .val (.int p2), .val (.int p3), .val (.int p4), .val (.ref b2), .val (.ref r10), .val (.int (3 : Int32)), .val (.ref b342), .val (.ref tA), .unset, .unset, .unset, .unset] [(.int (own_off (p4 &&& (16 : Int32))))])) _
          refine XS.istore X366.here hx rfl (hb hby at_143) rfl (l' := #[.val (.int p1), .val (.int p2), .val (.int p3), .val (.int p4), .val (.ref b2), .val (.ref r10), .val (.int (3 : Int32)), .val (.ref b342), .val (.ref tA), .val (.int (own_off (p4 &&& (16 : Int32)))), .unset, .unset, .unset]) rfl ?_
          exact k)
      obtain ⟨T377, h377, X377, e377, E377, A377, D377, -, st377⟩ := newO X366 hx hZ hown (hw _ (List.mem_of_getElem? (i := 29) rfl)) (hw _ (List.mem_of_getElem? (i := 30) rfl)) (hw _ (List.mem_of_getElem? (i := 31) rfl)) e366 (g := (mkF m 145 #[.val (.int p1), .val (.int p2), .val (.int p3), .val (.int p4), .val (.ref b2), .val (.ref r10), .val (.int (3 : Int32)), .val (.ref b342), .val (.ref tA), .val (.int (own_off (p4 &&& (16 : Int32)))), .unset, .unset, .unset] [])) rfl (hb hby at_145) (by decide) (by decide)
      obtain ⟨b377, g377⟩ : ∃ z, z = h359.size := ⟨_, rfl⟩
      rw [← g377] at A377 D377 st377
      have g_b377 : n0 ≤ b377 := Nat.le_trans Z359 (Nat.le_of_eq g377.symm)
      have sz_b377 : h0.size ≤ b377 := Nat.le_trans Kp362.1 (Nat.le_of_eq g377.symm)
      have ne_b2_b377 : b2 ≠ b377 := Nat.ne_of_lt (Nat.lt_of_lt_of_le Vf360.lt (Nat.le_of_eq g377.symm))
      have ne_b342_b377 : b342 ≠ b377 := Nat.ne_of_lt (Nat.lt_of_lt_of_le Ef361.lt (Nat.le_of_eq g377.symm))
      have ne_tA_b377 : tA ≠ b377 := Nat.ne_of_lt (Nat.lt_of_lt_of_le EA.lt (Nat.le_of_eq g377.symm))
      have Vf378 := Vf360.ext E377
      have Ef379 := Ef361.ext E377
      have Vf380 := V364.ext E377
      have Ef381 := EA.ext E377
      have Ff382 := FA.ext E377
      have Z377 : n0 ≤ h377.size := Nat.le_trans Z359 E377.1
      have Kp383 : Keep h0 h377 [] := Kp362.ext E377
      have F_mPcr_b377 : Fld Z h377 b377 "com/example/votal/votal/log/LogRecord" "mPcr" "I" (.int (0 : Int32)) := D377 (Or.inr (hw _ (List.mem_of_getElem? (i := 37) rfl))) (ty := .int) (by decide)
      have F_mTemplateDigest_b377 : Fld Z h377 b377 "com/example/votal/votal/log/LogRecord" "mTemplateDigest" "[B" .null := D377 (Or.inr (hw _ (List.mem_of_getElem? (i := 39) rfl))) (ty := (.array .byte)) (by decide)
      have F_mTemplateName_b377 : Fld Z h377 b377 "com/example/votal/votal/log/LogRecord" "mTemplateName" "Ljava/lang/String;" .null := D377 (Or.inr (hw _ (List.mem_of_getElem? (i := 48) rfl))) (ty := (.object "java/lang/String")) (by decide)
      have F_mTemplate_b377 : Fld Z h377 b377 "com/example/votal/votal/log/LogRecord" "mTemplate" "Lcom/example/votal/votal/log/Template;" .null := D377 (Or.inr (hw _ (List.mem_of_getElem? (i := 50) rfl))) (ty := (.object "com/example/votal/votal/log/Template")) (by decide)
      have F_mName_b377 : Fld Z h377 b377 "com/example/votal/votal/log/LogRecord" "mName" "Ljava/lang/String;" .null := D377 (Or.inr (hw _ (List.mem_of_getElem? (i := 52) rfl))) (ty := (.object "java/lang/String")) (by decide)
      have F_mDigestAlgorithm_b377 : Fld Z h377 b377 "com/example/votal/votal/log/LogRecord" "mDigestAlgorithm" "Lcom/example/votal/votal/log/DigestAlgorithm;" .null := D377 (Or.inr (hw _ (List.mem_of_getElem? (i := 54) rfl))) (ty := (.object "com/example/votal/votal/log/DigestAlgorithm")) (by decide)
      have F_mDigest_b377 : Fld Z h377 b377 "com/example/votal/votal/log/LogRecord" "mDigest" "[B" .null := D377 (Or.inr (hw _ (List.mem_of_getElem? (i := 56) rfl))) (ty := (.array .byte)) (by decide)
      have F_mEventDataOffset_b377 : Fld Z h377 b377 "com/example/votal/votal/log/LogRecord" "mEventDataOffset" "I" (.int (0 : Int32)) := D377 (Or.inr (hw _ (List.mem_of_getElem? (i := 58) rfl))) (ty := .int) (by decide)
      have F_mTemplateData_b377 : Fld Z h377 b377 "com/example/votal/votal/log/LogRecord" "mTemplateData" "[B" .null := D377 (Or.inr (hw _ (List.mem_of_getElem? (i := 60) rfl))) (ty := (.array .byte)) (by decide)
      have F_mViolation_b377 : Fld Z h377 b377 "com/example/votal/votal/log/LogRecord" "mViolation" "Z" (.int (0 : Int32)) := D377 (Or.inr (hw _ (List.mem_of_getElem? (i := 65) rfl))) (ty := .boolean) (by decide)
      have ac384 : ∀ t, Steps p.tables e below (T377.setTop (mkF m 148 #[.val (.int p1), .val (.int p2), .val (.int p3), .val (.int p4), .val (.ref b2), .val (.ref r10), .val (.int (3 : Int32)), .val (.ref b342), .val (.ref tA), .val (.int (own_off (p4 &&& (16 : Int32)))), .unset, .unset, .unset] [(.ref b377)])) t → Steps p.tables e below (s₁.setTop (entryFrame m #[(.int p1), (.int p2), (.int p3), (.int p4)] maxLocals)) t := fun t k => ac376 t (st377 t k)
      have ac385 : ∀ t, Steps p.tables e below (T377.setTop (mkF m 164 #[.val (.int p1), .val (.int p2), .val (.int p3), .val (.int p4), .val (.ref b2), .val (.ref r10), .val (.int (3 : Int32)), .val (.ref b342), .val (.ref tA), .val (.int (own_off (p4 &&& (16 : Int32)))), .unset, .unset, .unset] [(.int (0 : Int32)), (.int (own_off (p4 &&& (16 : Int32)))), (.ref r10), (.ref b342), .null, (.ref tA), (.ref b2), (.int ((p4.toUInt32 >>> ((5 : Int32) &&& 31).toUInt32).toInt32)), (.ref b377), (.ref b377)])) t → Steps p.tables e below (s₁.setTop (entryFrame m #[(.int p1), (.int p2), (.int p3), (.int p4)] maxLocals)) t := fun t k => ac384 t (by
          show Steps p.tables e below (T377.setTop (mkF m 148 #[.val (.int p1), .val (.int p2), .val (.int p3), .val (.int p4), .val (.ref b2), .val (.ref r10), .val (.int (3 : Int32)), .val (.ref b342), .val (.ref tA), .val (.int (own_off (p4 &&& (16 : Int32)))), .unset, .unset, .unset] [(.ref b377)])) _
          refine XS.dup X377.here hx rfl (hb hby at_148) rfl rfl ?_
          show Steps p.tables e below (T377.setTop (mkF m 149 #[.val (.int p1), .val (.int p2), .val (.int p3), .val (.int p4), .val (.ref b2), .val (.ref r10), .val (.int (3 : Int32)), .val (.ref b342), .val (.ref tA), .val (.int (own_off (p4 &&& (16 : Int32)))), .unset, .unset, .unset] [(.ref b377), (.ref b377)])) _
          refine XS.iloadN X377.here hx rfl (hb hby at_149) rfl ?_
          show Steps p.tables e below (T377.setTop (mkF m 150 #[.val (.int p1), .val (.int p2), .val (.int p3), .val (.int p4), .val (.ref b2), .val (.ref r10), .val (.int (3 : Int32)), .val (.ref b342), .val (.ref tA), .val (.int (own_off (p4 &&& (16 : Int32)))), .unset, .unset, .unset] [(.int p4), (.ref b377), (.ref b377)])) _
          refine XS.iconst X377.here hx rfl (hb hby at_150) ?_
          show Steps p.tables e below (T377.setTop (mkF m 151 #[.val (.int p1), .val (.int p2), .val (.int p3), .val (.int p4), .val (.ref b2), .val (.ref r10), .val (.int (3 : Int32)), .val (.ref b342), .val (.ref tA), .val (.int (own_off (p4 &&& (16 : Int32)))), .unset, .unset, .unset] [(.int (5 : Int32)), (.int p4), (.ref b377), (.ref b377)])) _
          refine XS.iushr X377.here hx rfl (hb hby at_151) rfl ?_
          show Steps p.tables e below (T377.setTop (mkF m 152 #[.val (.int p1), .val (.int p2), .val (.int p3), .val (.int p4), .val (.ref b2), .val (.ref r10), .val (.int (3 : Int32)), .val (.ref b342), .val (.ref tA), .val (.int (own_off (p4 &&& (16 : Int32)))), .unset, .unset, .unset] [(.int ((p4.toUInt32 >>> ((5 : Int32) &&& 31).toUInt32).toInt32)), (.ref b377), (.ref b377)])) _
          refine XS.aload X377.here hx rfl (hb hby at_152) rfl rfl ?_
          show Steps p.tables e below (T377.setTop (mkF m 154 #[.val (.int p1), .val (.int p2), .val (.int p3), .val (.int p4), .val (.ref b2), .val (.ref r10), .val (.int (3 : Int32)), .val (.ref b342), .val (.ref tA), .val (.int (own_off (p4 &&& (16 : Int32)))), .unset, .unset, .unset] [(.ref b2), (.int ((p4.toUInt32 >>> ((5 : Int32) &&& 31).toUInt32).toInt32)), (.ref b377), (.ref b377)])) _
          refine XS.aload X377.here hx rfl (hb hby at_154) rfl rfl ?_
          show Steps p.tables e below (T377.setTop (mkF m 156 #[.val (.int p1), .val (.int p2), .val (.int p3), .val (.int p4), .val (.ref b2), .val (.ref r10), .val (.int (3 : Int32)), .val (.ref b342), .val (.ref tA), .val (.int (own_off (p4 &&& (16 : Int32)))), .unset, .unset, .unset] [(.ref tA), (.ref b2), (.int ((p4.toUInt32 >>> ((5 : Int32) &&& 31).toUInt32).toInt32)), (.ref b377), (.ref b377)])) _
          refine XS.aconstNull X377.here hx rfl (hb hby at_156) ?_
          show Steps p.tables e below (T377.setTop (mkF m 157 #[.val (.int p1), .val (.int p2), .val (.int p3), .val (.int p4), .val (.ref b2), .val (.ref r10), .val (.int (3 : Int32)), .val (.ref b342), .val (.ref tA), .val (.int (own_off (p4 &&& (16 : Int32)))), .unset, .unset, .unset] [.null, (.ref tA), (.ref b2), (.int ((p4.toUInt32 >>> ((5 : Int32) &&& 31).toUInt32).toInt32)), (.ref b377), (.ref b377)])) _
          refine XS.aload X377.here hx rfl (hb hby at_157) rfl rfl ?_
          show Steps p.tables e below (T377.setTop (mkF m 159 #[.val (.int p1), .val (.int p2), .val (.int p3), .val (.int p4), .val (.ref b2), .val (.ref r10), .val (.int (3 : Int32)), .val (.ref b342), .val (.ref tA), .val (.int (own_off (p4 &&& (16 : Int32)))), .unset, .unset, .unset] [(.ref b342), .null, (.ref tA), (.ref b2), (.int ((p4.toUInt32 >>> ((5 : Int32) &&& 31).toUInt32).toInt32)), (.ref b377), (.ref b377)])) _
          refine XS.aload X377.here hx rfl (hb hby at_159) rfl rfl ?_
          show Steps p.tables e below (T377.setTop (mkF m 161 #[.val (.int p1), .val (.int p2), .val (.int p3), .val (.int p4), .val (.ref b2), .val (.ref r10), .val (.int (3 : Int32)), .val (.ref b342), .val (.ref tA), .val (.int (own_off (p4 &&& (16 : Int32)))), .unset, .unset, .unset] [(.ref r10), (.ref b342), .null, (.ref tA), (.ref b2), (.int ((p4.toUInt32 >>> ((5 : Int32) &&& 31).toUInt32).toInt32)), (.ref b377), (.ref b377)])) _
          refine XS.iload X377.here hx rfl (hb hby at_161) rfl ?_
          show Steps p.tables e below (T377.setTop (mkF m 163 #[.val (.int p1), .val (.int p2), .val (.int p3), .val (.int p4), .val (.ref b2), .val (.ref r10), .val (.int (3 : Int32)), .val (.ref b342), .val (.ref tA), .val (.int (own_off (p4 &&& (16 : Int32)))), .unset, .unset, .unset] [(.int (own_off (p4 &&& (16 : Int32)))), (.ref r10), (.ref b342), .null, (.ref tA), (.ref b2), (.int ((p4.toUInt32 >>> ((5 : Int32) &&& 31).toUInt32).toInt32)), (.ref b377), (.ref b377)])) _
          refine XS.iconst X377.here hx rfl (hb hby at_163) ?_
          exact k)
      obtain ⟨T386, h386, k386, X386, e386, E386, A386, st386⟩ := newP X377 hx hZ (hw _ (List.mem_of_getElem? (i := 0) rfl)) e377 (g := (mkF m 164 #[.val (.int p1), .val (.int p2), .val (.int p3), .val (.int p4), .val (.ref b2), .val (.ref r10), .val (.int (3 : Int32)), .val (.ref b342), .val (.ref tA), .val (.int (own_off (p4 &&& (16 : Int32)))), .unset, .unset, .unset] [(.int (0 : Int32)), (.int (own_off (p4 &&& (16 : Int32)))), (.ref r10), (.ref b342), .null, (.ref tA), (.ref b2), (.int ((p4.toUInt32 >>> ((5 : Int32) &&& 31).toUInt32).toInt32)), (.ref b377), (.ref b377)])) rfl (hb hby at_164) rfl (by decide) (cap := 0) (by decide) (by decide) (by decide) (by decide)
      obtain ⟨b386, g386⟩ : ∃ z, z = h377.size := ⟨_, rfl⟩
      rw [← g386] at A386 st386
      have g_b386 : n0 ≤ b386 := Nat.le_trans Z377 (Nat.le_of_eq g386.symm)
      have sz_b386 : h0.size ≤ b386 := Nat.le_trans Kp383.1 (Nat.le_of_eq g386.symm)
      have ne_b2_b386 : b2 ≠ b386 := Nat.ne_of_lt (Nat.lt_of_lt_of_le Vf378.lt (Nat.le_of_eq g386.symm))
      have ne_b342_b386 : b342 ≠ b386 := Nat.ne_of_lt (Nat.lt_of_lt_of_le Ef379.lt (Nat.le_of_eq g386.symm))
      have ne_tA_b386 : tA ≠ b386 := Nat.ne_of_lt (Nat.lt_of_lt_of_le Ef381.lt (Nat.le_of_eq g386.symm))
      have ne_b377_b386 : b377 ≠ b386 := Nat.ne_of_lt (Nat.lt_of_lt_of_le A377.lt (Nat.le_of_eq g386.symm))
      have Vf387 := Vf378.ext E386
      have Ef388 := Ef379.ext E386
      have Vf389 := Vf380.ext E386
      have Ef390 := Ef381.ext E386
      have Ff391 := Ff382.ext E386
      have Ef392 := A377.ext E386
      have Ff393 := F_mPcr_b377.ext E386
      have Ff394 := F_mTemplateDigest_b377.ext E386
      have Ff395 := F_mTemplateName_b377.ext E386
      have Ff396 := F_mTemplate_b377.ext E386
      have Ff397 := F_mName_b377.ext E386
      have Ff398 := F_mDigestAlgorithm_b377.ext E386
      have Ff399 := F_mDigest_b377.ext E386
      have Ff400 := F_mEventDataOffset_b377.ext E386
      have Ff401 := F_mTemplateData_b377.ext E386
      have Ff402 := F_mViolation_b377.ext E386
      have Z386 : n0 ≤ h386.size := Nat.le_trans Z377 E386.1
      have Kp403 : Keep h0 h386 [] := Kp383.ext E386
      have V386 : own_Ar Z h386 b386 .byte 0 (fun _ => (.int (0 : Int32))) := own_Ar.new A386 rfl
      have ac404 : ∀ t, Steps p.tables e below (T386.setTop (mkF m 166 #[.val (.int p1), .val (.int p2), .val (.int p3), .val (.int p4), .val (.ref b2), .val (.ref r10), .val (.int (3 : Int32)), .val (.ref b342), .val (.ref tA), .val (.int (own_off (p4 &&& (16 : Int32)))), .unset, .unset, .unset] [(.ref b386), (.int (own_off (p4 &&& (16 : Int32)))), (.ref r10), (.ref b342), .null, (.ref tA), (.ref b2), (.int ((p4.toUInt32 >>> ((5 : Int32) &&& 31).toUInt32).toInt32)), (.ref b377), (.ref b377)])) t → Steps p.tables e below (s₁.setTop (entryFrame m #[(.int p1), (.int p2), (.int p3), (.int p4)] maxLocals)) t := fun t k => ac385 t (st386 t k)
      obtain ⟨_, _, ⟨T405, L405, k405, n405⟩, -, X405, ⟨Lc405, hQ405, l405, y405, z405⟩, st405⟩ := X386.specialBack hx (y := (⟨"com/example/votal/votal/log/LogRecord", "<init>", "(I[BLcom/example/votal/votal/log/Template;Lcom/example/votal/votal/log/DigestAlgorithm;[BLjava/lang/String;I[B)V"⟩ : MethodName)) rfl hown (mvT hZ (hw _ (List.mem_of_getElem? (i := 32) rfl))) (mvT hZ (hw _ (List.mem_of_getElem? (i := 33) rfl))) (mvT hZ (hw _ (List.mem_of_getElem? (i := 34) rfl))) (by decide) (backOf (W := 1) (rm6 l Z a0 hw [] b377 ((p4.toUInt32 >>> ((5 : Int32) &&& 31).toUInt32).toInt32) b2 tA b342 r10 (own_off (p4 &&& (16 : Int32))) b386 20 _ nA h386 n0 Z386 Ef392 g_b377 Vf387 (own_td _) (by decide) ne_b2_b377 Ff393 Ff394 Ff395 Ff396 Ff397 Ff398 Ff399 Ff400 Ff401 Ff402 Ef390 Ff391 ne_tA_b377) hZ (hw _ (List.mem_of_getElem? (i := 34) rfl)) (hw _ (List.mem_of_getElem? (i := 31) rfl)) (by decide) (by decide)) (g := (mkF m 166 #[.val (.int p1), .val (.int p2), .val (.int p3), .val (.int p4), .val (.ref b2), .val (.ref r10), .val (.int (3 : Int32)), .val (.ref b342), .val (.ref tA), .val (.int (own_off (p4 &&& (16 : Int32)))), .unset, .unset, .unset] [(.ref b386), (.int (own_off (p4 &&& (16 : Int32)))), (.ref r10), (.ref b342), .null, (.ref tA), (.ref b2), (.int ((p4.toUInt32 >>> ((5 : Int32) &&& 31).toUInt32).toInt32)), (.ref b377), (.ref b377)])) rfl (by rw [hml]; rfl) (Steps.refl _) (a := b377) (argsL := [(.int ((p4.toUInt32 >>> ((5 : Int32) &&& 31).toUInt32).toInt32)), (.ref b2), (.ref tA), .null, (.ref b342), (.ref r10), (.int (own_off (p4 &&& (16 : Int32)))), (.ref b386)]) (rest := [(.ref b377)]) (lenOf pd_5 rfl) rfl (by show 2 * 0 + _ ≤ _; exact Nat.le_of_eq rfl) (hb hby at_166) (fun _ _ => ⟨rfl, e386, (by decide : 6 + 0 ≤ _), (by decide : 38 + 0 ≤ _)⟩)
      dsimp only [Pt.U, Pt.locs, Pt.cells, Pt.slots] at X405 l405 y405 z405 st405 hQ405
      subst l405 y405 z405
      obtain ⟨rfl, N405q, K405q, Ex405, Fl405⟩ := hQ405
      have N405 := Fr.app N359 N405q
      have Vf406 := Vf387.keep K405q (ninS ne_b2_b377 nin0)
      have Ef407 := Ef388.keep K405q
      have Vf408 := Vf389.keep K405q (ninS ne_b342_b377 nin0)
      have Ef409 := Ef390.keep K405q
      have Ff410 := Ff391.keep K405q (ninS ne_tA_b377 nin0)
      have Ef411 := Ef392.keep K405q
      have Vf412 := V386.keep K405q (ninS (Ne.symm ne_b377_b386) nin0)
      have Z405 : n0 ≤ T405.heap.size := Nat.le_trans Z386 K405q.1
      have Kp413 : Keep h0 T405.heap [] := Kp403.trans K405q (allS (Or.inr sz_b377) all0)
      have ac414 : ∀ t, Steps p.tables e below (T405.setTop (mkF m 169 #[.val (.int p1), .val (.int p2), .val (.int p3), .val (.int p4), .val (.ref b2), .val (.ref r10), .val (.int (3 : Int32)), .val (.ref b342), .val (.ref tA), .val (.int (own_off (p4 &&& (16 : Int32)))), .unset, .unset, .unset] [(.ref b377)])) t → Steps p.tables e below (s₁.setTop (entryFrame m #[(.int p1), (.int p2), (.int p3), (.int p4)] maxLocals)) t := fun t k => ac404 t (st405.trans k)
      have ac415 : ∀ t, Steps p.tables e below (T405.setTop (mkF m 173 #[.val (.int p1), .val (.int p2), .val (.int p3), .val (.int p4), .val (.ref b2), .val (.ref r10), .val (.int (3 : Int32)), .val (.ref b342), .val (.ref tA), .val (.int (own_off (p4 &&& (16 : Int32)))), .val (.ref b377), .unset, .unset] [(.ref b377)])) t → Steps p.tables e below (s₁.setTop (entryFrame m #[(.int p1), (.int p2), (.int p3), (.int p4)] maxLocals)) t := fun t k => ac414 t (by
          show Steps p.tables e below (T405.setTop (mkF m 169 #[.val (.int p1), .val (.int p2), .val (.int p3), .val (.int p4), .val (.ref b2), .val (.ref r10), .val (.int (3 : Int32)), .val (.ref b342), .val (.ref tA), .val (.int (own_off (p4 &&& (16 : Int32)))), .unset, .unset, .unset] [(.ref b377)])) _
          refine XS.astore X405.here hx rfl (hb hby at_169) rfl rfl (l' := #[.val (.int p1), .val (.int p2), .val (.int p3), .val (.int p4), .val (.ref b2), .val (.ref r10), .val (.int (3 : Int32)), .val (.ref b342), .val (.ref tA), .val (.int (own_off (p4 &&& (16 : Int32)))), .val (.ref b377), .unset, .unset]) rfl ?_
          show Steps p.tables e below (T405.setTop (mkF m 171 #[.val (.int p1), .val (.int p2), .val (.int p3), .val (.int p4), .val (.ref b2), .val (.ref r10), .val (.int (3 : Int32)), .val (.ref b342), .val (.ref tA), .val (.int (own_off (p4 &&& (16 : Int32)))), .val (.ref b377), .unset, .unset] [])) _
          refine XS.aload X405.here hx rfl (hb hby at_171) rfl rfl ?_
          exact k)
      obtain ⟨cq416, kq416, q416a, q416b, q416c⟩ := isOf hZ rfl Ef411
      obtain ⟨_, _, ⟨T416, L416, k416, n416⟩, -, X416, ⟨Lc416, hQ416, l416, y416, z416⟩, st416⟩ := X405.virtualBack hx (y := (⟨"com/example/votal/votal/log/LogRecord", "getDigest", "()[B"⟩ : MethodName)) (z := (⟨"com/example/votal/votal/log/LogRecord", "getDigest", "()[B"⟩ : MethodName)) hown (mvT hZ (hw _ (List.mem_of_getElem? (i := 66) rfl))) (mvT hZ (hw _ (List.mem_of_getElem? (i := 67) rfl))) (notFace_of_selects (args := #[]) (mvT hZ (hw _ (List.mem_of_getElem? (i := 69) rfl)))) (mvT hZ (hw _ (List.mem_of_getElem? (i := 69) rfl))) (mvT hZ (hw _ (List.mem_of_getElem? (i := 68) rfl))) (by decide) (backOf (W := 0) (rm9c l Z a0 hw [] b377 b342 3 _ T405.heap n0 Z405 Fl405 Vf408 Ef407 (by decide)) hZ (hw _ (List.mem_of_getElem? (i := 70) rfl)) (hw _ (List.mem_of_getElem? (i := 31) rfl)) (by decide) (by decide)) q416a q416c (g := (mkF m 173 #[.val (.int p1), .val (.int p2), .val (.int p3), .val (.int p4), .val (.ref b2), .val (.ref r10), .val (.int (3 : Int32)), .val (.ref b342), .val (.ref tA), .val (.int (own_off (p4 &&& (16 : Int32)))), .val (.ref b377), .unset, .unset] [(.ref b377)])) rfl (by rw [hml]; rfl) (Steps.refl _) (argsL := []) (rest := []) (lenOf pd_8 rfl) rfl (by show 2 * 0 + _ ≤ _; exact Nat.le_of_eq rfl) (hb hby at_173) (fun _ _ => ⟨rfl, rfl, (by decide : 6 + 1 ≤ _), (by decide : 38 + 3 ≤ _)⟩)
      dsimp only [Pt.U, Pt.locs, Pt.cells, Pt.slots] at X416 l416 y416 z416 st416 hQ416
      subst l416 y416 z416
      obtain ⟨r416, rfl, N416q, K416q, sz416, Vr416⟩ := hQ416
      have N416 := Fr.app N405 N416q
      have Vf417 := Vf406.keep K416q nin0
      have Ef418 := Ef407.keep K416q
      have Vf419 := Vf408.keep K416q nin0
      have Ef420 := Ef409.keep K416q
      have Ff421 := Ff410.keep K416q nin0
      have Ef422 := Ef411.keep K416q
      have Vf423 := Vf412.keep K416q nin0
      have Ff424 := Fl405.keep K416q nin0
      have Z416 : n0 ≤ T416.heap.size := Nat.le_trans Z405 K416q.1
      have Kp425 : Keep h0 T416.heap [] := Kp413.trans K416q all0
      have g_r416 : n0 ≤ r416 := Nat.le_trans Z405 sz416
      have sz_r416 : h0.size ≤ r416 := Nat.le_trans Kp413.1 sz416
      have ne_b2_r416 : b2 ≠ r416 := Nat.ne_of_lt (Nat.lt_of_lt_of_le Vf406.lt sz416)
      have ne_b342_r416 : b342 ≠ r416 := Nat.ne_of_lt (Nat.lt_of_lt_of_le Ef407.lt sz416)
      have ne_tA_r416 : tA ≠ r416 := Nat.ne_of_lt (Nat.lt_of_lt_of_le Ef409.lt sz416)
      have ne_b377_r416 : b377 ≠ r416 := Nat.ne_of_lt (Nat.lt_of_lt_of_le Ef411.lt sz416)
      have ne_b386_r416 : b386 ≠ r416 := Nat.ne_of_lt (Nat.lt_of_lt_of_le Vf412.lt sz416)
      have ac426 : ∀ t, Steps p.tables e below (T416.setTop (mkF m 176 #[.val (.int p1), .val (.int p2), .val (.int p3), .val (.int p4), .val (.ref b2), .val (.ref r10), .val (.int (3 : Int32)), .val (.ref b342), .val (.ref tA), .val (.int (own_off (p4 &&& (16 : Int32)))), .val (.ref b377), .unset, .unset] [(.ref r416)])) t → Steps p.tables e below (s₁.setTop (entryFrame m #[(.int p1), (.int p2), (.int p3), (.int p4)] maxLocals)) t := fun t k => ac415 t (st416.trans k)
      have ac427 : ∀ t, Steps p.tables e below (T416.setTop (mkF m 196 #[.val (.int p1), .val (.int p2), .val (.int p3), .val (.int p4), .val (.ref b2), .val (.ref r10), .val (.int (3 : Int32)), .val (.ref b342), .val (.ref tA), .val (.int (own_off (p4 &&& (16 : Int32)))), .val (.ref b377), .val (.ref r416), .unset] [(.int p2), (.int p1), (.int (3 : Int32)), (.ref r416)])) t → Steps p.tables e below (s₁.setTop (entryFrame m #[(.int p1), (.int p2), (.int p3), (.int p4)] maxLocals)) t := fun t k => ac426 t (by
          show Steps p.tables e below (T416.setTop (mkF m 176 #[.val (.int p1), .val (.int p2), .val (.int p3), .val (.int p4), .val (.ref b2), .val (.ref r10), .val (.int (3 : Int32)), .val (.ref b342), .val (.ref tA), .val (.int (own_off (p4 &&& (16 : Int32)))), .val (.ref b377), .unset, .unset] [(.ref r416)])) _
          refine XS.astore X416.here hx rfl (hb hby at_176) rfl rfl (l' := #[.val (.int p1), .val (.int p2), .val (.int p3), .val (.int p4), .val (.ref b2), .val (.ref r10), .val (.int (3 : Int32)), .val (.ref b342), .val (.ref tA), .val (.int (own_off (p4 &&& (16 : Int32)))), .val (.ref b377), .val (.ref r416), .unset]) rfl ?_
          show Steps p.tables e below (T416.setTop (mkF m 178 #[.val (.int p1), .val (.int p2), .val (.int p3), .val (.int p4), .val (.ref b2), .val (.ref r10), .val (.int (3 : Int32)), .val (.ref b342), .val (.ref tA), .val (.int (own_off (p4 &&& (16 : Int32)))), .val (.ref b377), .val (.ref r416), .unset] [])) _
          refine XS.aload X416.here hx rfl (hb hby at_178) rfl rfl ?_
          show Steps p.tables e below (T416.setTop (mkF m 180 #[.val (.int p1), .val (.int p2), .val (.int p3), .val (.int p4), .val (.ref b2), .val (.ref r10), .val (.int (3 : Int32)), .val (.ref b342), .val (.ref tA), .val (.int (own_off (p4 &&& (16 : Int32)))), .val (.ref b377), .val (.ref r416), .unset] [(.ref r416)])) _
          refine XS.ifnullNo X416.here hx rfl (hb hby at_180) rfl ?_
          show Steps p.tables e below (T416.setTop (mkF m 183 #[.val (.int p1), .val (.int p2), .val (.int p3), .val (.int p4), .val (.ref b2), .val (.ref r10), .val (.int (3 : Int32)), .val (.ref b342), .val (.ref tA), .val (.int (own_off (p4 &&& (16 : Int32)))), .val (.ref b377), .val (.ref r416), .unset] [])) _
          refine XS.aload X416.here hx rfl (hb hby at_183) rfl rfl ?_
          show Steps p.tables e below (T416.setTop (mkF m 185 #[.val (.int p1), .val (.int p2), .val (.int p3), .val (.int p4), .val (.ref b2), .val (.ref r10), .val (.int (3 : Int32)), .val (.ref b342), .val (.ref tA), .val (.int (own_off (p4 &&& (16 : Int32)))), .val (.ref b377), .val (.ref r416), .unset] [(.ref r416)])) _
          refine XS.aload X416.here hx rfl (hb hby at_185) rfl rfl ?_
          show Steps p.tables e below (T416.setTop (mkF m 187 #[.val (.int p1), .val (.int p2), .val (.int p3), .val (.int p4), .val (.ref b2), .val (.ref r10), .val (.int (3 : Int32)), .val (.ref b342), .val (.ref tA), .val (.int (own_off (p4 &&& (16 : Int32)))), .val (.ref b377), .val (.ref r416), .unset] [(.ref b342), (.ref r416)])) _
          refine Jvm.RoadKit.acmp (g := (mkF m 187 #[.val (.int p1), .val (.int p2), .val (.int p3), .val (.int p4), .val (.ref b2), .val (.ref r10), .val (.int (3 : Int32)), .val (.ref b342), .val (.ref tA), .val (.int (own_off (p4 &&& (16 : Int32)))), .val (.ref b377), .val (.ref r416), .unset] [(.ref b342), (.ref r416)])) X416 hx rfl rfl rfl (pc0 := 187) (pc' := 190) (same := false) rfl (hb hby at_187) rfl (decide_eq_false fun q => (Ne.symm ne_b342_r416) (Value.ref.inj q)) (by decide) (by decide) ?_
          show Steps p.tables e below (T416.setTop (mkF m 190 #[.val (.int p1), .val (.int p2), .val (.int p3), .val (.int p4), .val (.ref b2), .val (.ref r10), .val (.int (3 : Int32)), .val (.ref b342), .val (.ref tA), .val (.int (own_off (p4 &&& (16 : Int32)))), .val (.ref b377), .val (.ref r416), .unset] [])) _
          refine XS.aload X416.here hx rfl (hb hby at_190) rfl rfl ?_
          show Steps p.tables e below (T416.setTop (mkF m 192 #[.val (.int p1), .val (.int p2), .val (.int p3), .val (.int p4), .val (.ref b2), .val (.ref r10), .val (.int (3 : Int32)), .val (.ref b342), .val (.ref tA), .val (.int (own_off (p4 &&& (16 : Int32)))), .val (.ref b377), .val (.ref r416), .unset] [(.ref r416)])) _
          refine XS.iload X416.here hx rfl (hb hby at_192) rfl ?_
          show Steps p.tables e below (T416.setTop (mkF m 194 #[.val (.int p1), .val (.int p2), .val (.int p3), .val (.int p4), .val (.ref b2), .val (.ref r10), .val (.int (3 : Int32)), .val (.ref b342), .val (.ref tA), .val (.int (own_off (p4 &&& (16 : Int32)))), .val (.ref b377), .val (.ref r416), .unset] [(.int (3 : Int32)), (.ref r416)])) _
          refine XS.iloadN X416.here hx rfl (hb hby at_194) rfl ?_
          show Steps p.tables e below (T416.setTop (mkF m 195 #[.val (.int p1), .val (.int p2), .val (.int p3), .val (.int p4), .val (.ref b2), .val (.ref r10), .val (.int (3 : Int32)), .val (.ref b342), .val (.ref tA), .val (.int (own_off (p4 &&& (16 : Int32)))), .val (.ref b377), .val (.ref r416), .unset] [(.int p1), (.int (3 : Int32)), (.ref r416)])) _
          refine XS.iloadN X416.here hx rfl (hb hby at_195) rfl ?_
          exact k)
      obtain ⟨_, _, ⟨T428, L428, k428, n428⟩, -, X428, ⟨Lc428, hQ428, l428, y428, z428⟩, st428⟩ := Jvm.LawKit.callS X416 hx (y := (⟨"com/example/votal/votal/log/LogRecordGetDigestPinLaw", "same", "([BIII)Z"⟩ : MethodName)) hown (mvT hZ (hw _ (List.mem_of_getElem? (i := 80) rfl))) (mvT hZ (hw _ (List.mem_of_getElem? (i := 81) rfl))) (mvT hZ (hw _ (List.mem_of_getElem? (i := 82) rfl))) (mvT hZ (hw _ (List.mem_of_getElem? (i := 83) rfl))) (by decide) (backOf (W := 0) (rm10_3 l Z a0 hw [] r416 (3 : Int32) p1 p2 _ T416.heap n0 Z416 Vr416 rfl rfl rfl rfl) hZ (hw _ (List.mem_of_getElem? (i := 83) rfl)) (hw _ (List.mem_of_getElem? (i := 82) rfl)) (by decide) (by decide)) (g := (mkF m 196 #[.val (.int p1), .val (.int p2), .val (.int p3), .val (.int p4), .val (.ref b2), .val (.ref r10), .val (.int (3 : Int32)), .val (.ref b342), .val (.ref tA), .val (.int (own_off (p4 &&& (16 : Int32)))), .val (.ref b377), .val (.ref r416), .unset] [(.int p2), (.int p1), (.int (3 : Int32)), (.ref r416)])) rfl (by rw [hml]; rfl) (argsL := [(.ref r416), (.int (3 : Int32)), (.int p1), (.int p2)]) (rest := []) (lenOf pd_10 rfl) rfl (by show 2 * 0 + _ ≤ _; exact Nat.le_of_eq rfl) (hb hby at_196) (fun _ _ => ⟨rfl, rfl, (by decide : 7 + 0 ≤ _), (by decide : 41 + 0 ≤ _)⟩)
      dsimp only [Pt.U, Pt.locs, Pt.cells, Pt.slots] at X428 l428 y428 z428 st428 hQ428
      subst l428 y428 z428
      obtain ⟨rfl, N428q, Qe428⟩ := hQ428
      have N428 := Fr.app N416 N428q
      have ac429 : ∀ t, Steps p.tables e below (T428.setTop (mkF m 199 #[.val (.int p1), .val (.int p2), .val (.int p3), .val (.int p4), .val (.ref b2), .val (.ref r10), .val (.int (3 : Int32)), .val (.ref b342), .val (.ref tA), .val (.int (own_off (p4 &&& (16 : Int32)))), .val (.ref b377), .val (.ref r416), .unset] [(.int (1 : Int32))])) t → Steps p.tables e below (s₁.setTop (entryFrame m #[(.int p1), (.int p2), (.int p3), (.int p4)] maxLocals)) t := fun t k => ac427 t (st428 t k)
      have ac430 : ∀ t, Steps p.tables e below (T428.setTop (mkF m 215 #[.val (.int p1), .val (.int p2), .val (.int p3), .val (.int p4), .val (.ref b2), .val (.ref r10), .val (.int (3 : Int32)), .val (.ref b342), .val (.ref tA), .val (.int (own_off (p4 &&& (16 : Int32)))), .val (.ref b377), .val (.ref r416), .unset] [(.int (0 : Int32)), (.ref r416), (.int (0 : Int32)), (.ref r416)])) t → Steps p.tables e below (s₁.setTop (entryFrame m #[(.int p1), (.int p2), (.int p3), (.int p4)] maxLocals)) t := fun t k => ac429 t (by
          show Steps p.tables e below (T428.setTop (mkF m 199 #[.val (.int p1), .val (.int p2), .val (.int p3), .val (.int p4), .val (.ref b2), .val (.ref r10), .val (.int (3 : Int32)), .val (.ref b342), .val (.ref tA), .val (.int (own_off (p4 &&& (16 : Int32)))), .val (.ref b377), .val (.ref r416), .unset] [(.int (1 : Int32))])) _
          refine XS.ifYes X428.here hx rfl (pc0 := 199) (pc' := 204) rfl (hb hby at_199) rfl ((if0 _ _).trans (feq (by decide)).2) (by decide) (by decide) ?_
          show Steps p.tables e below (T428.setTop (mkF m 204 #[.val (.int p1), .val (.int p2), .val (.int p3), .val (.int p4), .val (.ref b2), .val (.ref r10), .val (.int (3 : Int32)), .val (.ref b342), .val (.ref tA), .val (.int (own_off (p4 &&& (16 : Int32)))), .val (.ref b377), .val (.ref r416), .unset] [])) _
          refine XS.iload X428.here hx rfl (hb hby at_204) rfl ?_
          show Steps p.tables e below (T428.setTop (mkF m 206 #[.val (.int p1), .val (.int p2), .val (.int p3), .val (.int p4), .val (.ref b2), .val (.ref r10), .val (.int (3 : Int32)), .val (.ref b342), .val (.ref tA), .val (.int (own_off (p4 &&& (16 : Int32)))), .val (.ref b377), .val (.ref r416), .unset] [(.int (3 : Int32))])) _
          refine XS.ifNo X428.here hx rfl (hb hby at_206) rfl ((if0 _ _).trans (tlt (by decide)).2.2.2) ?_
          show Steps p.tables e below (T428.setTop (mkF m 209 #[.val (.int p1), .val (.int p2), .val (.int p3), .val (.int p4), .val (.ref b2), .val (.ref r10), .val (.int (3 : Int32)), .val (.ref b342), .val (.ref tA), .val (.int (own_off (p4 &&& (16 : Int32)))), .val (.ref b377), .val (.ref r416), .unset] [])) _
          refine XS.aload X428.here hx rfl (hb hby at_209) rfl rfl ?_
          show Steps p.tables e below (T428.setTop (mkF m 211 #[.val (.int p1), .val (.int p2), .val (.int p3), .val (.int p4), .val (.ref b2), .val (.ref r10), .val (.int (3 : Int32)), .val (.ref b342), .val (.ref tA), .val (.int (own_off (p4 &&& (16 : Int32)))), .val (.ref b377), .val (.ref r416), .unset] [(.ref r416)])) _
          refine XS.iconst X428.here hx rfl (hb hby at_211) ?_
          show Steps p.tables e below (T428.setTop (mkF m 212 #[.val (.int p1), .val (.int p2), .val (.int p3), .val (.int p4), .val (.ref b2), .val (.ref r10), .val (.int (3 : Int32)), .val (.ref b342), .val (.ref tA), .val (.int (own_off (p4 &&& (16 : Int32)))), .val (.ref b377), .val (.ref r416), .unset] [(.int (0 : Int32)), (.ref r416)])) _
          refine XS.aload X428.here hx rfl (hb hby at_212) rfl rfl ?_
          show Steps p.tables e below (T428.setTop (mkF m 214 #[.val (.int p1), .val (.int p2), .val (.int p3), .val (.int p4), .val (.ref b2), .val (.ref r10), .val (.int (3 : Int32)), .val (.ref b342), .val (.ref tA), .val (.int (own_off (p4 &&& (16 : Int32)))), .val (.ref b377), .val (.ref r416), .unset] [(.ref r416), (.int (0 : Int32)), (.ref r416)])) _
          refine XS.iconst X428.here hx rfl (hb hby at_214) ?_
          exact k)
      obtain ⟨cl431, Ac431, hin431, hat431⟩ := Vr416.at (j := (0 : Int32)) (i := 0) rfl (by decide)
      have ac432 : ∀ t, Steps p.tables e below (T428.setTop (mkF m 219 #[.val (.int p1), .val (.int p2), .val (.int p3), .val (.int p4), .val (.ref b2), .val (.ref r10), .val (.int (3 : Int32)), .val (.ref b342), .val (.ref tA), .val (.int (own_off (p4 &&& (16 : Int32)))), .val (.ref b377), .val (.ref r416), .unset] [(.int (((p1.toInt8.toInt32) + (1 : Int32)).toInt8.toInt32)), (.int (0 : Int32)), (.ref r416)])) t → Steps p.tables e below (s₁.setTop (entryFrame m #[(.int p1), (.int p2), (.int p3), (.int p4)] maxLocals)) t := fun t k => ac430 t (by
          show Steps p.tables e below (T428.setTop (mkF m 215 #[.val (.int p1), .val (.int p2), .val (.int p3), .val (.int p4), .val (.ref b2), .val (.ref r10), .val (.int (3 : Int32)), .val (.ref b342), .val (.ref tA), .val (.int (own_off (p4 &&& (16 : Int32)))), .val (.ref b377), .val (.ref r416), .unset] [(.int (0 : Int32)), (.ref r416), (.int (0 : Int32)), (.ref r416)])) _
          refine X428.baloadBytes hx (j := (0 : Int32)) (v := (.int (p1.toInt8.toInt32))) (by rw [Qe428]; exact Ac431.1) (State.isArrayOf_alike hZ.alike Ac431.2.1) Ac431.2.2 hin431 (hat431.trans (congrArg some rfl)) (g := (mkF m 215 #[.val (.int p1), .val (.int p2), .val (.int p3), .val (.int p4), .val (.ref b2), .val (.ref r10), .val (.int (3 : Int32)), .val (.ref b342), .val (.ref tA), .val (.int (own_off (p4 &&& (16 : Int32)))), .val (.ref b377), .val (.ref r416), .unset] [(.int (0 : Int32)), (.ref r416), (.int (0 : Int32)), (.ref r416)])) rfl rfl (hb hby at_215) _ ?_
          show Steps p.tables e below (T428.setTop (mkF m 216 #[.val (.int p1), .val (.int p2), .val (.int p3), .val (.int p4), .val (.ref b2), .val (.ref r10), .val (.int (3 : Int32)), .val (.ref b342), .val (.ref tA), .val (.int (own_off (p4 &&& (16 : Int32)))), .val (.ref b377), .val (.ref r416), .unset] [(.int (p1.toInt8.toInt32)), (.int (0 : Int32)), (.ref r416)])) _
          refine XS.iconst X428.here hx rfl (hb hby at_216) ?_
          show Steps p.tables e below (T428.setTop (mkF m 217 #[.val (.int p1), .val (.int p2), .val (.int p3), .val (.int p4), .val (.ref b2), .val (.ref r10), .val (.int (3 : Int32)), .val (.ref b342), .val (.ref tA), .val (.int (own_off (p4 &&& (16 : Int32)))), .val (.ref b377), .val (.ref r416), .unset] [(.int (1 : Int32)), (.int (p1.toInt8.toInt32)), (.int (0 : Int32)), (.ref r416)])) _
          refine XS.iadd X428.here hx rfl (hb hby at_217) rfl ?_
          show Steps p.tables e below (T428.setTop (mkF m 218 #[.val (.int p1), .val (.int p2), .val (.int p3), .val (.int p4), .val (.ref b2), .val (.ref r10), .val (.int (3 : Int32)), .val (.ref b342), .val (.ref tA), .val (.int (own_off (p4 &&& (16 : Int32)))), .val (.ref b377), .val (.ref r416), .unset] [(.int ((p1.toInt8.toInt32) + (1 : Int32))), (.int (0 : Int32)), (.ref r416)])) _
          refine XS.i2b X428.here hx rfl (hb hby at_218) rfl ?_
          exact k)
      obtain ⟨cl433, Ac433, hin433, -⟩ := Vr416.at (j := (0 : Int32)) (i := 0) rfl (by decide)
      obtain ⟨T433, h433, X433, e433, W433, st433⟩ := stB X428 hx hZ Qe428 Ac433 (j := (0 : Int32)) hin433 (g := (mkF m 219 #[.val (.int p1), .val (.int p2), .val (.int p3), .val (.int p4), .val (.ref b2), .val (.ref r10), .val (.int (3 : Int32)), .val (.ref b342), .val (.ref tA), .val (.int (own_off (p4 &&& (16 : Int32)))), .val (.ref b377), .val (.ref r416), .unset] [(.int (((p1.toInt8.toInt32) + (1 : Int32)).toInt8.toInt32)), (.int (0 : Int32)), (.ref r416)])) rfl rfl (hb hby at_219)
      have V433 := Vr416.set (i := 0) rfl W433 (fits_nar_byte _)
      have Vf434 := Vf417.other W433 ne_b2_r416
      have Ef435 := Ef418.wr W433
      have Vf436 := Vf419.other W433 ne_b342_r416
      have Ef437 := Ef420.wr W433
      have Ff438 := Ff421.other W433 (Or.inl ne_tA_r416)
      have Ef439 := Ef422.wr W433
      have Vf440 := Vf423.other W433 ne_b386_r416
      have Ff441 := Ff424.other W433 (Or.inl ne_b377_r416)
      have N433 := Fr.snoc X433 N428 g_r416
      have Z433 : n0 ≤ h433.size := Nat.le_trans Z416 (Keep.of_wr W433).1
      have Kp442 : Keep h0 h433 [] := Kp425.wr W433 (Or.inr sz_r416)
      have ac443 : ∀ t, Steps p.tables e below (T433.setTop (mkF m 220 #[.val (.int p1), .val (.int p2), .val (.int p3), .val (.int p4), .val (.ref b2), .val (.ref r10), .val (.int (3 : Int32)), .val (.ref b342), .val (.ref tA), .val (.int (own_off (p4 &&& (16 : Int32)))), .val (.ref b377), .val (.ref r416), .unset] [])) t → Steps p.tables e below (s₁.setTop (entryFrame m #[(.int p1), (.int p2), (.int p3), (.int p4)] maxLocals)) t := fun t k => ac432 t (st433 t k)
      have ac444 : ∀ t, Steps p.tables e below (T433.setTop (mkF m 222 #[.val (.int p1), .val (.int p2), .val (.int p3), .val (.int p4), .val (.ref b2), .val (.ref r10), .val (.int (3 : Int32)), .val (.ref b342), .val (.ref tA), .val (.int (own_off (p4 &&& (16 : Int32)))), .val (.ref b377), .val (.ref r416), .unset] [(.ref b377)])) t → Steps p.tables e below (s₁.setTop (entryFrame m #[(.int p1), (.int p2), (.int p3), (.int p4)] maxLocals)) t := fun t k => ac443 t (by
          show Steps p.tables e below (T433.setTop (mkF m 220 #[.val (.int p1), .val (.int p2), .val (.int p3), .val (.int p4), .val (.ref b2), .val (.ref r10), .val (.int (3 : Int32)), .val (.ref b342), .val (.ref tA), .val (.int (own_off (p4 &&& (16 : Int32)))), .val (.ref b377), .val (.ref r416), .unset] [])) _
          refine XS.aload X433.here hx rfl (hb hby at_220) rfl rfl ?_
          exact k)
      obtain ⟨cq445, kq445, q445a, q445b, q445c⟩ := isOf hZ e433 Ef439
      obtain ⟨_, _, ⟨T445, L445, k445, n445⟩, -, X445, ⟨Lc445, hQ445, l445, y445, z445⟩, st445⟩ := X433.virtualBack hx (y := (⟨"com/example/votal/votal/log/LogRecord", "getDigest", "()[B"⟩ : MethodName)) (z := (⟨"com/example/votal/votal/log/LogRecord", "getDigest", "()[B"⟩ : MethodName)) hown (mvT hZ (hw _ (List.mem_of_getElem? (i := 66) rfl))) (mvT hZ (hw _ (List.mem_of_getElem? (i := 67) rfl))) (notFace_of_selects (args := #[]) (mvT hZ (hw _ (List.mem_of_getElem? (i := 69) rfl)))) (mvT hZ (hw _ (List.mem_of_getElem? (i := 69) rfl))) (mvT hZ (hw _ (List.mem_of_getElem? (i := 68) rfl))) (by decide) (backOf (W := 0) (rm9c l Z a0 hw [] b377 b342 3 _ h433 n0 Z433 Ff441 Vf436 Ef435 (by decide)) hZ (hw _ (List.mem_of_getElem? (i := 70) rfl)) (hw _ (List.mem_of_getElem? (i := 31) rfl)) (by decide) (by decide)) q445a q445c (g := (mkF m 222 #[.val (.int p1), .val (.int p2), .val (.int p3), .val (.int p4), .val (.ref b2), .val (.ref r10), .val (.int (3 : Int32)), .val (.ref b342), .val (.ref tA), .val (.int (own_off (p4 &&& (16 : Int32)))), .val (.ref b377), .val (.ref r416), .unset] [(.ref b377)])) rfl (by rw [hml]; rfl) (Steps.refl _) (argsL := []) (rest := []) (lenOf pd_8 rfl) rfl (by show 2 * 0 + _ ≤ _; exact Nat.le_of_eq rfl) (hb hby at_222) (fun _ _ => ⟨rfl, e433, (by decide : 7 + 1 ≤ _), (by decide : 41 + 3 ≤ _)⟩)
      dsimp only [Pt.U, Pt.locs, Pt.cells, Pt.slots] at X445 l445 y445 z445 st445 hQ445
      subst l445 y445 z445
      obtain ⟨r445, rfl, N445q, K445q, sz445, Vr445⟩ := hQ445
      have N445 := Fr.app N433 N445q
      have Vf446 := Vf434.keep K445q nin0
      have Ef447 := Ef435.keep K445q
      have Vf448 := Vf436.keep K445q nin0
      have Ef449 := Ef437.keep K445q
      have Ff450 := Ff438.keep K445q nin0
      have Ef451 := Ef439.keep K445q
      have Vf452 := Vf440.keep K445q nin0
      have Ff453 := Ff441.keep K445q nin0
      have Vf454 := V433.keep K445q nin0
      have Z445 : n0 ≤ T445.heap.size := Nat.le_trans Z433 K445q.1
      have Kp455 : Keep h0 T445.heap [] := Kp442.trans K445q all0
      have g_r445 : n0 ≤ r445 := Nat.le_trans Z433 sz445
      have sz_r445 : h0.size ≤ r445 := Nat.le_trans Kp442.1 sz445
      have ne_b2_r445 : b2 ≠ r445 := Nat.ne_of_lt (Nat.lt_of_lt_of_le Vf434.lt sz445)
      have ne_b342_r445 : b342 ≠ r445 := Nat.ne_of_lt (Nat.lt_of_lt_of_le Ef435.lt sz445)
      have ne_tA_r445 : tA ≠ r445 := Nat.ne_of_lt (Nat.lt_of_lt_of_le Ef437.lt sz445)
      have ne_b377_r445 : b377 ≠ r445 := Nat.ne_of_lt (Nat.lt_of_lt_of_le Ef439.lt sz445)
      have ne_b386_r445 : b386 ≠ r445 := Nat.ne_of_lt (Nat.lt_of_lt_of_le Vf440.lt sz445)
      have ne_r416_r445 : r416 ≠ r445 := Nat.ne_of_lt (Nat.lt_of_lt_of_le V433.lt sz445)
      have ac456 : ∀ t, Steps p.tables e below (T445.setTop (mkF m 225 #[.val (.int p1), .val (.int p2), .val (.int p3), .val (.int p4), .val (.ref b2), .val (.ref r10), .val (.int (3 : Int32)), .val (.ref b342), .val (.ref tA), .val (.int (own_off (p4 &&& (16 : Int32)))), .val (.ref b377), .val (.ref r416), .unset] [(.ref r445)])) t → Steps p.tables e below (s₁.setTop (entryFrame m #[(.int p1), (.int p2), (.int p3), (.int p4)] maxLocals)) t := fun t k => ac444 t (st445.trans k)
      have ac457 : ∀ t, Steps p.tables e below (T445.setTop (mkF m 252 #[.val (.int p1), .val (.int p2), .val (.int p3), .val (.int p4), .val (.ref b2), .val (.ref r10), .val (.int (3 : Int32)), .val (.ref b342), .val (.ref tA), .val (.int (own_off (p4 &&& (16 : Int32)))), .val (.ref b377), .val (.ref r416), .val (.ref r445)] [(.int p2), (.int p1), (.int (3 : Int32)), (.ref r445)])) t → Steps p.tables e below (s₁.setTop (entryFrame m #[(.int p1), (.int p2), (.int p3), (.int p4)] maxLocals)) t := fun t k => ac456 t (by
          show Steps p.tables e below (T445.setTop (mkF m 225 #[.val (.int p1), .val (.int p2), .val (.int p3), .val (.int p4), .val (.ref b2), .val (.ref r10), .val (.int (3 : Int32)), .val (.ref b342), .val (.ref tA), .val (.int (own_off (p4 &&& (16 : Int32)))), .val (.ref b377), .val (.ref r416), .unset] [(.ref r445)])) _
          refine XS.astore X445.here hx rfl (hb hby at_225) rfl rfl (l' := #[.val (.int p1), .val (.int p2), .val (.int p3), .val (.int p4), .val (.ref b2), .val (.ref r10), .val (.int (3 : Int32)), .val (.ref b342), .val (.ref tA), .val (.int (own_off (p4 &&& (16 : Int32)))), .val (.ref b377), .val (.ref r416), .val (.ref r445)]) rfl ?_
          show Steps p.tables e below (T445.setTop (mkF m 227 #[.val (.int p1), .val (.int p2), .val (.int p3), .val (.int p4), .val (.ref b2), .val (.ref r10), .val (.int (3 : Int32)), .val (.ref b342), .val (.ref tA), .val (.int (own_off (p4 &&& (16 : Int32)))), .val (.ref b377), .val (.ref r416), .val (.ref r445)] [])) _
          refine XS.aload X445.here hx rfl (hb hby at_227) rfl rfl ?_
          show Steps p.tables e below (T445.setTop (mkF m 229 #[.val (.int p1), .val (.int p2), .val (.int p3), .val (.int p4), .val (.ref b2), .val (.ref r10), .val (.int (3 : Int32)), .val (.ref b342), .val (.ref tA), .val (.int (own_off (p4 &&& (16 : Int32)))), .val (.ref b377), .val (.ref r416), .val (.ref r445)] [(.ref r445)])) _
          refine XS.ifnullNo X445.here hx rfl (hb hby at_229) rfl ?_
          show Steps p.tables e below (T445.setTop (mkF m 232 #[.val (.int p1), .val (.int p2), .val (.int p3), .val (.int p4), .val (.ref b2), .val (.ref r10), .val (.int (3 : Int32)), .val (.ref b342), .val (.ref tA), .val (.int (own_off (p4 &&& (16 : Int32)))), .val (.ref b377), .val (.ref r416), .val (.ref r445)] [])) _
          refine XS.aload X445.here hx rfl (hb hby at_232) rfl rfl ?_
          show Steps p.tables e below (T445.setTop (mkF m 234 #[.val (.int p1), .val (.int p2), .val (.int p3), .val (.int p4), .val (.ref b2), .val (.ref r10), .val (.int (3 : Int32)), .val (.ref b342), .val (.ref tA), .val (.int (own_off (p4 &&& (16 : Int32)))), .val (.ref b377), .val (.ref r416), .val (.ref r445)] [(.ref r445)])) _
          refine XS.aload X445.here hx rfl (hb hby at_234) rfl rfl ?_
          show Steps p.tables e below (T445.setTop (mkF m 236 #[.val (.int p1), .val (.int p2), .val (.int p3), .val (.int p4), .val (.ref b2), .val (.ref r10), .val (.int (3 : Int32)), .val (.ref b342), .val (.ref tA), .val (.int (own_off (p4 &&& (16 : Int32)))), .val (.ref b377), .val (.ref r416), .val (.ref r445)] [(.ref r416), (.ref r445)])) _
          refine Jvm.RoadKit.acmp (g := (mkF m 236 #[.val (.int p1), .val (.int p2), .val (.int p3), .val (.int p4), .val (.ref b2), .val (.ref r10), .val (.int (3 : Int32)), .val (.ref b342), .val (.ref tA), .val (.int (own_off (p4 &&& (16 : Int32)))), .val (.ref b377), .val (.ref r416), .val (.ref r445)] [(.ref r416), (.ref r445)])) X445 hx rfl rfl rfl (pc0 := 236) (pc' := 239) (same := false) rfl (hb hby at_236) rfl (decide_eq_false fun q => (Ne.symm ne_r416_r445) (Value.ref.inj q)) (by decide) (by decide) ?_
          show Steps p.tables e below (T445.setTop (mkF m 239 #[.val (.int p1), .val (.int p2), .val (.int p3), .val (.int p4), .val (.ref b2), .val (.ref r10), .val (.int (3 : Int32)), .val (.ref b342), .val (.ref tA), .val (.int (own_off (p4 &&& (16 : Int32)))), .val (.ref b377), .val (.ref r416), .val (.ref r445)] [])) _
          refine XS.aload X445.here hx rfl (hb hby at_239) rfl rfl ?_
          show Steps p.tables e below (T445.setTop (mkF m 241 #[.val (.int p1), .val (.int p2), .val (.int p3), .val (.int p4), .val (.ref b2), .val (.ref r10), .val (.int (3 : Int32)), .val (.ref b342), .val (.ref tA), .val (.int (own_off (p4 &&& (16 : Int32)))), .val (.ref b377), .val (.ref r416), .val (.ref r445)] [(.ref r445)])) _
          refine XS.aload X445.here hx rfl (hb hby at_241) rfl rfl ?_
          show Steps p.tables e below (T445.setTop (mkF m 243 #[.val (.int p1), .val (.int p2), .val (.int p3), .val (.int p4), .val (.ref b2), .val (.ref r10), .val (.int (3 : Int32)), .val (.ref b342), .val (.ref tA), .val (.int (own_off (p4 &&& (16 : Int32)))), .val (.ref b377), .val (.ref r416), .val (.ref r445)] [(.ref b342), (.ref r445)])) _
          refine Jvm.RoadKit.acmp (g := (mkF m 243 #[.val (.int p1), .val (.int p2), .val (.int p3), .val (.int p4), .val (.ref b2), .val (.ref r10), .val (.int (3 : Int32)), .val (.ref b342), .val (.ref tA), .val (.int (own_off (p4 &&& (16 : Int32)))), .val (.ref b377), .val (.ref r416), .val (.ref r445)] [(.ref b342), (.ref r445)])) X445 hx rfl rfl rfl (pc0 := 243) (pc' := 246) (same := false) rfl (hb hby at_243) rfl (decide_eq_false fun q => (Ne.symm ne_b342_r445) (Value.ref.inj q)) (by decide) (by decide) ?_
          show Steps p.tables e below (T445.setTop (mkF m 246 #[.val (.int p1), .val (.int p2), .val (.int p3), .val (.int p4), .val (.ref b2), .val (.ref r10), .val (.int (3 : Int32)), .val (.ref b342), .val (.ref tA), .val (.int (own_off (p4 &&& (16 : Int32)))), .val (.ref b377), .val (.ref r416), .val (.ref r445)] [])) _
          refine XS.aload X445.here hx rfl (hb hby at_246) rfl rfl ?_
          show Steps p.tables e below (T445.setTop (mkF m 248 #[.val (.int p1), .val (.int p2), .val (.int p3), .val (.int p4), .val (.ref b2), .val (.ref r10), .val (.int (3 : Int32)), .val (.ref b342), .val (.ref tA), .val (.int (own_off (p4 &&& (16 : Int32)))), .val (.ref b377), .val (.ref r416), .val (.ref r445)] [(.ref r445)])) _
          refine XS.iload X445.here hx rfl (hb hby at_248) rfl ?_
          show Steps p.tables e below (T445.setTop (mkF m 250 #[.val (.int p1), .val (.int p2), .val (.int p3), .val (.int p4), .val (.ref b2), .val (.ref r10), .val (.int (3 : Int32)), .val (.ref b342), .val (.ref tA), .val (.int (own_off (p4 &&& (16 : Int32)))), .val (.ref b377), .val (.ref r416), .val (.ref r445)] [(.int (3 : Int32)), (.ref r445)])) _
          refine XS.iloadN X445.here hx rfl (hb hby at_250) rfl ?_
          show Steps p.tables e below (T445.setTop (mkF m 251 #[.val (.int p1), .val (.int p2), .val (.int p3), .val (.int p4), .val (.ref b2), .val (.ref r10), .val (.int (3 : Int32)), .val (.ref b342), .val (.ref tA), .val (.int (own_off (p4 &&& (16 : Int32)))), .val (.ref b377), .val (.ref r416), .val (.ref r445)] [(.int p1), (.int (3 : Int32)), (.ref r445)])) _
          refine XS.iloadN X445.here hx rfl (hb hby at_251) rfl ?_
          exact k)
      obtain ⟨_, _, ⟨T458, L458, k458, n458⟩, -, X458, ⟨Lc458, hQ458, l458, y458, z458⟩, st458⟩ := Jvm.LawKit.callS X445 hx (y := (⟨"com/example/votal/votal/log/LogRecordGetDigestPinLaw", "same", "([BIII)Z"⟩ : MethodName)) hown (mvT hZ (hw _ (List.mem_of_getElem? (i := 80) rfl))) (mvT hZ (hw _ (List.mem_of_getElem? (i := 81) rfl))) (mvT hZ (hw _ (List.mem_of_getElem? (i := 82) rfl))) (mvT hZ (hw _ (List.mem_of_getElem? (i := 83) rfl))) (by decide) (backOf (W := 0) (rm10_3 l Z a0 hw [] r445 (3 : Int32) p1 p2 _ T445.heap n0 Z445 Vr445 rfl rfl rfl rfl) hZ (hw _ (List.mem_of_getElem? (i := 83) rfl)) (hw _ (List.mem_of_getElem? (i := 82) rfl)) (by decide) (by decide)) (g := (mkF m 252 #[.val (.int p1), .val (.int p2), .val (.int p3), .val (.int p4), .val (.ref b2), .val (.ref r10), .val (.int (3 : Int32)), .val (.ref b342), .val (.ref tA), .val (.int (own_off (p4 &&& (16 : Int32)))), .val (.ref b377), .val (.ref r416), .val (.ref r445)] [(.int p2), (.int p1), (.int (3 : Int32)), (.ref r445)])) rfl (by rw [hml]; rfl) (argsL := [(.ref r445), (.int (3 : Int32)), (.int p1), (.int p2)]) (rest := []) (lenOf pd_10 rfl) rfl (by show 2 * 0 + _ ≤ _; exact Nat.le_of_eq rfl) (hb hby at_252) (fun _ _ => ⟨rfl, rfl, (by decide : 8 + 0 ≤ _), (by decide : 44 + 0 ≤ _)⟩)
      dsimp only [Pt.U, Pt.locs, Pt.cells, Pt.slots] at X458 l458 y458 z458 st458 hQ458
      subst l458 y458 z458
      obtain ⟨rfl, N458q, Qe458⟩ := hQ458
      have N458 := Fr.app N445 N458q
      have ac459 : ∀ t, Steps p.tables e below (T458.setTop (mkF m 255 #[.val (.int p1), .val (.int p2), .val (.int p3), .val (.int p4), .val (.ref b2), .val (.ref r10), .val (.int (3 : Int32)), .val (.ref b342), .val (.ref tA), .val (.int (own_off (p4 &&& (16 : Int32)))), .val (.ref b377), .val (.ref r416), .val (.ref r445)] [(.int (1 : Int32))])) t → Steps p.tables e below (s₁.setTop (entryFrame m #[(.int p1), (.int p2), (.int p3), (.int p4)] maxLocals)) t := fun t k => ac457 t (st458 t k)
      have ac460 : ∀ t, Steps p.tables e below (T458.setTop (mkF m 263 #[.val (.int p1), .val (.int p2), .val (.int p3), .val (.int p4), .val (.ref b2), .val (.ref r10), .val (.int (3 : Int32)), .val (.ref b342), .val (.ref tA), .val (.int (own_off (p4 &&& (16 : Int32)))), .val (.ref b377), .val (.ref r416), .val (.ref r445)] [(.int (1 : Int32))])) t → Steps p.tables e below (s₁.setTop (entryFrame m #[(.int p1), (.int p2), (.int p3), (.int p4)] maxLocals)) t := fun t k => ac459 t (by
          show Steps p.tables e below (T458.setTop (mkF m 255 #[.val (.int p1), .val (.int p2), .val (.int p3), .val (.int p4), .val (.ref b2), .val (.ref r10), .val (.int (3 : Int32)), .val (.ref b342), .val (.ref tA), .val (.int (own_off (p4 &&& (16 : Int32)))), .val (.ref b377), .val (.ref r416), .val (.ref r445)] [(.int (1 : Int32))])) _
          refine XS.ifNo X458.here hx rfl (hb hby at_255) rfl ((if0 _ _).trans (feq (by decide)).1) ?_
          show Steps p.tables e below (T458.setTop (mkF m 258 #[.val (.int p1), .val (.int p2), .val (.int p3), .val (.int p4), .val (.ref b2), .val (.ref r10), .val (.int (3 : Int32)), .val (.ref b342), .val (.ref tA), .val (.int (own_off (p4 &&& (16 : Int32)))), .val (.ref b377), .val (.ref r416), .val (.ref r445)] [])) _
          refine XS.iconst X458.here hx rfl (hb hby at_258) ?_
          show Steps p.tables e below (T458.setTop (mkF m 259 #[.val (.int p1), .val (.int p2), .val (.int p3), .val (.int p4), .val (.ref b2), .val (.ref r10), .val (.int (3 : Int32)), .val (.ref b342), .val (.ref tA), .val (.int (own_off (p4 &&& (16 : Int32)))), .val (.ref b377), .val (.ref r416), .val (.ref r445)] [(.int (1 : Int32))])) _
          refine XS.goto X458.here hx rfl (pc0 := 259) (pc' := 263) rfl (hb hby at_259) (by decide) (by decide) ?_
          exact k)
      obtain ⟨fs, hr, hrun, hended, hW, hsame⟩ := X458.leave (v := some (.int (1 : Int32))) (fun h => by rw [Bd.returns] at h; cases h) (BodyLoose.notSynchronized Bd)
      refine ⟨_, _, ac460 _ ?_, hrun, hended, _, _, rfl, ?_, ⟨_, rfl⟩, hW, hsame.mono (by decide) (by decide)⟩
      · show Steps p.tables e below (T458.setTop (mkF m 263 #[.val (.int p1), .val (.int p2), .val (.int p3), .val (.int p4), .val (.ref b2), .val (.ref r10), .val (.int (3 : Int32)), .val (.ref b342), .val (.ref tA), .val (.int (own_off (p4 &&& (16 : Int32)))), .val (.ref b377), .val (.ref r416), .val (.ref r445)] [(.int (1 : Int32))])) _
        exact retN X458 hx (t := .boolean) Bd.returns (by simp) (hb hby at_263) hr
      · show Q0 Z p1 p2 p3 p4 cs tN tB nN nB h0 n0 _ T458.heap _
        rw [Qe458]
        exact ⟨rfl, N458⟩
set_option maxRecDepth 65536 in
set_option maxHeartbeats 40000000 in
theorem comes_1 {Post : Tables → Env → Array Value → State → Outcome → State → Prop} (hpost : ∀ tb e args s v u, (limb_1_1.after args s (.returned v) u = true ∧ limb_1_2.after args s (.returned v) u = true ∧ True) → FrameEnd s (.returned v) u (Jvm.fieldLocs frame_1_writes args s ++ Jvm.arrayLocs frame_1_arrays args s ++ Jvm.staticLocs frame_1_statics s) 24 192 → Post tb e args s (.returned v) u) :
    ArmFor flags0 classFile x code maxLocals ret World_1 tables_1 room_1 Calls_1 rest_1 Pre_1 Post := by
  intro l hfl _ _ p e ha hc hk s m args below hf hA hF happ hP
  obtain ⟨hcalls, hrest, hpre⟩ := hP
  obtain ⟨-, -, -, hnamed, -, -, -, hat⟩ := (Spec.applies_iff hf).mp happ
  obtain ⟨hg, hn⟩ := and_e (Cond.before_iff.mp (show (Jvm.Cond.and given_1 narrow_1).before args s = true from hpre))
  obtain ⟨hcnt, hk0⟩ := and_e hg
  obtain ⟨g0, hk1⟩ := and_e hk0
  obtain ⟨g1, hk2⟩ := and_e hk1
  obtain ⟨g2, hk3⟩ := and_e hk2
  have g3 := hk3
  obtain ⟨w0, w1, w2, w3, rfl⟩ : ∃ w0 w1 w2 w3 : Value, args = #[w0, w1, w2, w3] := by
    have hs : args.size = 4 := by simpa [Cond.value, given_1] using hcnt
    obtain ⟨L⟩ := args
    match L, hs with
    | [w0, w1, w2, w3], _ => exact ⟨w0, w1, w2, w3, rfl⟩
  have hw := fun d (hd : d ∈ tables_1) => atoms_spec (ws := Jvm.Cond.code x code maxLocals ret :: tables_1) hat d (List.mem_cons_of_mem _ hd)
  have hfit : Fit s := fun {y c} hc i hi => by
    obtain ⟨ha, rfl⟩ := Array.getElem?_eq_some_iff.mp hc
    have q := List.all_eq_true.mp ((Array.all_eq_true_iff_forall_mem.mp hF) _ (Array.getElem_mem ha)) i (List.mem_range.mpr hi)
    simpa [Array.getElem?_eq_getElem hi] using q
  obtain ⟨hsets, hown0⟩ := atoms_of _ (rest_1_c_eq ▸ (show rest_1_c.before _ s = true from hrest))
  have hr0 := Cond.before_iff.mp hown0
  obtain ⟨i0, ei0⟩ := is_v g0
  obtain rfl : w0 = (.int i0) := Option.some.inj ei0
  obtain ⟨i1, ei1⟩ := is_v g1
  obtain rfl : w1 = (.int i1) := Option.some.inj ei1
  obtain ⟨i2, ei2⟩ := is_v g2
  obtain rfl : w2 = (.int i2) := Option.some.inj ei2
  obtain ⟨i3, ei3⟩ := is_v g3
  obtain rfl : w3 = (.int i3) := Option.some.inj ei3
  obtain ⟨m0, hn1⟩ := and_e hn
  obtain ⟨m1, hn2⟩ := and_e hn1
  obtain ⟨m2, m3⟩ := and_e hn2
  obtain ⟨tN, evN⟩ := exa_v m0
  have SN := Sta.start evN (Or.inr ⟨(hw _ (List.mem_of_getElem? (i := 27) rfl)), (hw _ (List.mem_of_getElem? (i := 28) rfl))⟩)
  have EN := Exa.start evN m0
  obtain ⟨nN, enN⟩ := exa_v m1
  have FN : Fld s s.heap tN "com/example/votal/votal/log/Template" "mName" "Ljava/lang/String;" (.ref nN) := Fld.start ((fld_at evN).symm.trans enN)
  obtain ⟨tB, evB⟩ := exa_v m2
  have SB := Sta.start evB (Or.inr ⟨(hw _ (List.mem_of_getElem? (i := 27) rfl)), (hw _ (List.mem_of_getElem? (i := 88) rfl))⟩)
  have EB := Exa.start evB m2
  obtain ⟨nB, enB⟩ := exa_v m3
  have FB : Fld s s.heap tB "com/example/votal/votal/log/Template" "mName" "Ljava/lang/String;" (.ref nB) := Fld.start ((fld_at evB).symm.trans enB)
  obtain ⟨cs, ecs⟩ := is_v (Cond.before_iff.mp (hsets _ (List.mem_of_getElem? (i := 1) rfl)))
  have Sc := Sta.start ecs (Or.inl (hsets _ (List.mem_of_getElem? (i := 0) rfl)))
  have hcs : ¬ cs = 0 := fun q => by
    have u := not_v (Cond.before_iff.mp (hsets _ (List.mem_of_getElem? (i := 2) rfl)))
    rw [Cond.eq_ints ecs rfl] at u
    simp [q] at u
  obtain ⟨n, o, h1, h2, h3, _, L, rfl, ⟨rfl, N⟩, hq⟩ := rm0 l s _ hw tables_1 i0 i1 i2 i3 cs tN tB nN nB s.heap s.heap.size (Nat.le_refl _) Sc hcs SN SB EN EB FN FB p e ha hc hk s m _ below hf ((Spec.applies_iff_loose hf).mp happ).1 ⟨rfl, State.Warmed39.refl s, rfl⟩ trivial
  refine ⟨n, _, h1, h2, h3, hpost _ _ _ _ _ _ ⟨Cond.after_iff.mpr rfl, Cond.after_iff.mpr (eq_i res_at (Term.int_eval (1)) rfl), trivial⟩ ⟨hq.1, hq.2.1, (hq.2.2.sift fun y hy => Or.inr (N y hy)).mono (by decide) (by decide)⟩⟩
theorem main_1_1 : Claimed_1_1 := comes_1 fun _ _ _ _ _ _ h hF => ⟨h.1, hF⟩
theorem main_1_2 : Claimed_1_2 := comes_1 fun _ _ _ _ _ _ h hF => ⟨h.2.1, hF⟩
end Jvm.Pilot.@@N@@
namespace Jvm.Pilot.@@N@@
open Jvm Jvm.ClassFile Sem Op Lib Jvm.Free Jvm.Stand Jvm.Pilot.@@N@@.Jvm.D
/-! MADE BY PROGRAM (witnessworld.py) out of the Statement's table words and the real class files: 19 classes; the members and pool entries that the words name. The judged class is class 1, her method 1. -/
namespace start1
open Jvm.ClassFile
def u (s : String) : CpInfo := .utf8 (stringToUtf16 s)
/-- a pool by its gaps: so many unusable entries, then the entry; so many at the end -/
def gap : Nat → List CpInfo → List CpInfo
  | 0, r => r
  | n + 1, r => .unusable :: gap n r
def poolList (es : List (Nat × CpInfo)) (last : Nat) : List CpInfo := es.foldr (fun e r => gap e.1 (e.2 :: r)) (gap last [])
def pool (es : List (Nat × CpInfo)) (last : Nat) : Array CpInfo := ⟨poolList es last⟩
def fileOf (pool : Array CpInfo) (this : Nat) (attrs : Array Attribute := #[]) (ms : Array MethodInfo := #[]) (fl : Nat := 33) (sup : Nat := 0) (ifs : Array Nat := #[]) (fds : Array FieldInfo := #[]) : ClassFile where
  minorVersion := 0
  majorVersion := 65
  constantPool := pool
  accessFlags := fl
  thisClass := this
  superClass := sup
  interfaces := ifs
  fields := fds
  methods := ms
  attributes := attrs
def plain (name : String) (sup : Option ClassId) : Class where
  name := name
  kind := .ordinary
  loader := none
  accessFlags := 33
  super := sup
  interfaces := #[]
  cf := none
  fields := #[]
  methods := #[]
  instanceTypes := #[]
  staticTypes := #[]
  resolved := #[]
  callSites := []
  init := .initialized
  statics := none
  mirror := none

def pool0 : Array CpInfo := pool [(5, u "<init>"), (0, u "()V"), (1, .class_ 10), (1, u "java/lang/Object"), (85, u "clone"), (0, u "()Ljava/lang/Object;")] 26

def k0c0 : Code := { maxStack := 0, maxLocals := 1, code := object_method_1_code, exceptionTable := #[], attributes := #[] }
def k0m0 : Method := { name := "<init>", desc := "()V", sig := { parameters := [], returnType := none }, accessFlags := 1, code := some k0c0 }
def k0m1 : Method := { name := "clone", desc := "()Ljava/lang/Object;", sig := { parameters := [], returnType := some (.object "java/lang/Object") }, accessFlags := 260, code := none }
/-- java/lang/Object -/
def k0 : Class := { plain "java/lang/Object" none with
  accessFlags := 33
  interfaces := #[]
  cf := some (fileOf pool0 8 #[] #[{ accessFlags := 1, nameIndex := 5, descriptorIndex := 6, attributes := #[] }, { accessFlags := 260, nameIndex := 96, descriptorIndex := 97, attributes := #[] }] 33 0 #[] #[])
  fields := #[]
  methods := #[k0m0, k0m1]
  instanceTypes := #[]
  staticTypes := #[]
  resolved := Array.replicate 124 none
  statics := none }

def pool1 : Array CpInfo := pool [(2, .class_ 4), (1, u "java/lang/Object"), (0, u "<init>"), (0, u "()V"), (0, .methodref 8 9), (0, .class_ 10), (0, .nameAndType 11 12), (0, u "java/lang/String"), (0, u "valueOf"), (0, u "(C)Ljava/lang/String;"), (0, .class_ 14), (0, u "com/example/votal/votal/log/LogRecord"), (0, .methodref 13 16), (0, .nameAndType 5 17), (0, u "(I[BLjava/lang/String;Ljava/lang/String;[B)V"), (0, .methodref 13 19), (0, .nameAndType 20 21), (0, u "getDigest"), (0, u "()[B"), (0, .fieldref 23 24), (0, .class_ 25), (0, .nameAndType 26 27), (0, u "com/example/votal/votal/log/Template"), (0, u "IMA_BUF"), (0, u "Lcom/example/votal/votal/log/Template;"), (0, .fieldref 23 29), (0, .nameAndType 30 27), (0, u "IMA_NG"), (0, .methodref 13 32), (0, .nameAndType 5 33), (0, u "(I[BLcom/example/votal/votal/log/Template;Lcom/example/votal/votal/log/DigestAlgorithm;[BLjava/lang/String;I[B)V"), (0, .methodref 35 36), (0, .class_ 37), (0, .nameAndType 38 39), (0, u "com/example/votal/votal/log/LogRecordGetDigestPinLaw"), (0, u "same"), (0, u "([BIII)Z"), (2, u "law"), (0, u "(IIII)Z")] 5

def k1m0 : Method := { name := "<init>", desc := "()V", sig := { parameters := [], returnType := none }, accessFlags := 1, code := none }
def k1c1 : Code := { maxStack := 10, maxLocals := 13, code := code, exceptionTable := #[], attributes := #[] }
def k1m1 : Method := { name := "law", desc := "(IIII)Z", sig := { parameters := [.int, .int, .int, .int], returnType := some .boolean }, accessFlags := 9, code := some k1c1 }
def k1c2 : Code := { maxStack := 3, maxLocals := 4, code := method_3_code, exceptionTable := #[], attributes := #[] }
def k1m2 : Method := { name := "same", desc := "([BIII)Z", sig := { parameters := [(.array .byte), .int, .int, .int], returnType := some .boolean }, accessFlags := 10, code := some k1c2 }
/-- com/example/votal/votal/log/LogRecordGetDigestPinLaw -/
def k1 : Class := { plain "com/example/votal/votal/log/LogRecordGetDigestPinLaw" (some 0) with
  accessFlags := 49
  interfaces := #[]
  cf := some (fileOf pool1 35 #[] #[{ accessFlags := 1, nameIndex := 5, descriptorIndex := 6, attributes := #[] }, { accessFlags := 9, nameIndex := 42, descriptorIndex := 43, attributes := #[] }, { accessFlags := 10, nameIndex := 38, descriptorIndex := 39, attributes := #[] }] 49 2 #[] #[])
  fields := #[]
  methods := #[k1m0, k1m1, k1m2]
  instanceTypes := #[]
  staticTypes := #[]
  resolved := Array.replicate 49 none
  statics := none }

def pool2 : Array CpInfo := pool [(1, .class_ 2), (0, u "java/io/Serializable"), (0, .class_ 4), (0, u "java/lang/Object")] 2

/-- java/io/Serializable -/
def k2 : Class := { plain "java/io/Serializable" (some 0) with
  accessFlags := 1537
  interfaces := #[]
  cf := some (fileOf pool2 1 #[] #[] 1537 3 #[] #[])
  fields := #[]
  methods := #[]
  instanceTypes := #[]
  staticTypes := #[]
  resolved := Array.replicate 7 none
  statics := none }

def pool3 : Array CpInfo := pool [(1, .class_ 2), (0, u "java/lang/Comparable"), (0, .class_ 4), (0, u "java/lang/Object")] 7

/-- java/lang/Comparable -/
def k3 : Class := { plain "java/lang/Comparable" (some 0) with
  accessFlags := 1537
  interfaces := #[]
  cf := some (fileOf pool3 1 #[] #[] 1537 3 #[] #[])
  fields := #[]
  methods := #[]
  instanceTypes := #[]
  staticTypes := #[]
  resolved := Array.replicate 12 none
  statics := none }

def pool4 : Array CpInfo := pool [(2, .class_ 4), (1, u "java/lang/CharSequence"), (42, .class_ 48), (0, u "java/lang/CharSequence$1CodePointIterator"), (10, .class_ 60), (0, u "java/lang/CharSequence$1CharIterator"), (5, .class_ 67), (0, u "java/lang/Object")] 63

/-- java/lang/CharSequence -/
def k4 : Class := { plain "java/lang/CharSequence" (some 0) with
  accessFlags := 1537
  interfaces := #[]
  cf := some (fileOf pool4 2 #[.nestMembers #[47, 59]] #[] 1537 66 #[] #[])
  fields := #[]
  methods := #[]
  instanceTypes := #[]
  staticTypes := #[]
  resolved := Array.replicate 131 none
  statics := none }

def pool5 : Array CpInfo := pool [(1, .class_ 2), (0, u "java/lang/constant/Constable"), (0, .class_ 4), (0, u "java/lang/Object")] 6

/-- java/lang/constant/Constable -/
def k5 : Class := { plain "java/lang/constant/Constable" (some 0) with
  accessFlags := 1537
  interfaces := #[]
  cf := some (fileOf pool5 1 #[] #[] 1537 3 #[] #[])
  fields := #[]
  methods := #[]
  instanceTypes := #[]
  staticTypes := #[]
  resolved := Array.replicate 11 none
  statics := none }

def pool6 : Array CpInfo := pool [(1, .class_ 2), (0, u "java/lang/constant/ConstantDesc"), (0, .class_ 4), (0, u "java/lang/Object")] 32

/-- java/lang/constant/ConstantDesc -/
def k6 : Class := { plain "java/lang/constant/ConstantDesc" (some 0) with
  accessFlags := 1537
  interfaces := #[]
  cf := some (fileOf pool6 1 #[] #[] 1537 3 #[] #[])
  fields := #[]
  methods := #[]
  instanceTypes := #[]
  staticTypes := #[]
  resolved := Array.replicate 37 none
  statics := none }

def pool7 : Array CpInfo := pool [(1, .methodref 2 3), (0, .class_ 4), (0, .nameAndType 5 6), (0, u "java/lang/Object"), (0, u "<init>"), (0, u "()V"), (2, .fieldref 10 11), (0, .class_ 12), (0, .nameAndType 13 14), (0, u "java/lang/String"), (0, u "value"), (0, u "[B"), (0, .fieldref 10 16), (0, .nameAndType 17 18), (0, u "coder"), (0, u "B"), (2, u "hash"), (0, u "I"), (2, u "hashIsZero"), (0, u "Z"), (11, .fieldref 10 39), (0, .nameAndType 40 26), (0, u "COMPACT_STRINGS"), (12, u "toBytes"), (53, .class_ 109), (1, u "java/lang/StringLatin1"), (99, .methodref 10 210), (0, .nameAndType 5 211), (0, u "([BB)V"), (157, u "(C)Z"), (205, .class_ 576), (0, u "java/lang/CharSequence"), (22, u "CASE_INSENSITIVE_ORDER"), (0, u "Ljava/util/Comparator;"), (181, u "valueOf"), (0, u "(C)Ljava/lang/String;"), (231, .methodref 107 1016), (0, .nameAndType 1017 369), (0, u "canEncode"), (0, .methodref 107 1019), (0, .nameAndType 53 1020), (0, u "(C)[B"), (80, u "serialPersistentFields"), (0, u "[Ljava/io/ObjectStreamField;"), (0, .class_ 1104), (0, u "java/lang/String$CaseInsensitiveComparator"), (1, .class_ 1107), (0, u "java/io/Serializable"), (0, .class_ 1109), (0, u "java/lang/Comparable"), (0, .class_ 1111), (0, u "java/lang/constant/Constable"), (0, .class_ 1113), (0, u "java/lang/constant/ConstantDesc"), (2, u "serialVersionUID"), (0, u "J"), (3, u "REPL"), (0, u "C"), (2, u "LATIN1"), (1, u "UTF16")] 323

def k7m0 : Method := { name := "<init>", desc := "()V", sig := { parameters := [], returnType := none }, accessFlags := 1, code := none }
def k7c1 : Code := { maxStack := 4, maxLocals := 1, code := jdk_42_method_139_code, exceptionTable := #[], attributes := #[] }
def k7m1 : Method := { name := "valueOf", desc := "(C)Ljava/lang/String;", sig := { parameters := [.char], returnType := some (.object "java/lang/String") }, accessFlags := 9, code := some k7c1 }
def k7c2 : Code := { maxStack := 2, maxLocals := 3, code := jdk_42_method_151_code, exceptionTable := #[], attributes := #[] }
def k7m2 : Method := { name := "<init>", desc := "([BB)V", sig := { parameters := [(.array .byte), .byte], returnType := none }, accessFlags := 0, code := some k7c2 }
/-- java/lang/String -/
def k7 : Class := { plain "java/lang/String" (some 0) with
  accessFlags := 49
  interfaces := #[2, 3, 4, 5, 6]
  cf := some (fileOf pool7 10 #[.nestMembers #[1103]] #[{ accessFlags := 1, nameIndex := 5, descriptorIndex := 6, attributes := #[] }, { accessFlags := 9, nameIndex := 782, descriptorIndex := 783, attributes := #[] }, { accessFlags := 0, nameIndex := 5, descriptorIndex := 211, attributes := #[] }] 49 2 #[1106, 1108, 575, 1110, 1112] #[{ accessFlags := 18, nameIndex := 13, descriptorIndex := 14, attributes := #[] }, { accessFlags := 18, nameIndex := 17, descriptorIndex := 18, attributes := #[] }, { accessFlags := 2, nameIndex := 21, descriptorIndex := 22, attributes := #[] }, { accessFlags := 2, nameIndex := 25, descriptorIndex := 26, attributes := #[] }, { accessFlags := 26, nameIndex := 1116, descriptorIndex := 1117, attributes := #[] }, { accessFlags := 24, nameIndex := 40, descriptorIndex := 26, attributes := #[] }, { accessFlags := 26, nameIndex := 1101, descriptorIndex := 1102, attributes := #[] }, { accessFlags := 26, nameIndex := 1121, descriptorIndex := 1122, attributes := #[] }, { accessFlags := 25, nameIndex := 599, descriptorIndex := 600, attributes := #[] }, { accessFlags := 24, nameIndex := 1125, descriptorIndex := 18, attributes := #[] }, { accessFlags := 24, nameIndex := 1127, descriptorIndex := 18, attributes := #[] }])
  fields := #[{ name := "value", type := (.array .byte), accessFlags := 18, slot := 0, constantValue := 0 }, { name := "coder", type := .byte, accessFlags := 18, slot := 1, constantValue := 0 }, { name := "hash", type := .int, accessFlags := 2, slot := 2, constantValue := 0 }, { name := "hashIsZero", type := .boolean, accessFlags := 2, slot := 3, constantValue := 0 }, { name := "serialVersionUID", type := .long, accessFlags := 26, slot := 0, constantValue := 0 }, { name := "COMPACT_STRINGS", type := .boolean, accessFlags := 24, slot := 1, constantValue := 0 }, { name := "serialPersistentFields", type := (.array (.object "java/io/ObjectStreamField")), accessFlags := 26, slot := 2, constantValue := 0 }, { name := "REPL", type := .char, accessFlags := 26, slot := 3, constantValue := 0 }, { name := "CASE_INSENSITIVE_ORDER", type := (.object "java/util/Comparator"), accessFlags := 25, slot := 4, constantValue := 0 }, { name := "LATIN1", type := .byte, accessFlags := 24, slot := 5, constantValue := 0 }, { name := "UTF16", type := .byte, accessFlags := 24, slot := 6, constantValue := 0 }]
  methods := #[k7m0, k7m1, k7m2]
  instanceTypes := #[(.array .byte), .byte, .int, .boolean]
  staticTypes := #[.long, .boolean, (.array (.object "java/io/ObjectStreamField")), .char, (.object "java/util/Comparator"), .byte, .byte]
  resolved := Array.replicate 1451 none
  statics := some 0 }

def pool8 : Array CpInfo := pool [(4, .class_ 6), (1, u "java/lang/Object"), (0, u "<init>"), (0, u "()V"), (5, .class_ 16), (1, u "java/lang/StringLatin1"), (73, u "canEncode"), (14, u "(C)Z"), (15, u "$assertionsDisabled"), (0, u "Z"), (98, .class_ 223), (1, u "java/lang/StringLatin1$LinesSpliterator"), (156, u "toBytes"), (1, u "(C)[B"), (7, .class_ 391), (0, u "java/lang/StringLatin1$CharsSpliterator")] 3

def k8m0 : Method := { name := "<init>", desc := "()V", sig := { parameters := [], returnType := none }, accessFlags := 0, code := none }
def k8c1 : Code := { maxStack := 2, maxLocals := 1, code := jdk_43_method_3_code, exceptionTable := #[], attributes := #[] }
def k8m1 : Method := { name := "canEncode", desc := "(C)Z", sig := { parameters := [.char], returnType := some .boolean }, accessFlags := 9, code := some k8c1 }
def k8c2 : Code := { maxStack := 4, maxLocals := 1, code := jdk_43_method_46_code, exceptionTable := #[], attributes := #[] }
def k8m2 : Method := { name := "toBytes", desc := "(C)[B", sig := { parameters := [.char], returnType := some (.array .byte) }, accessFlags := 9, code := some k8c2 }
/-- java/lang/StringLatin1 -/
def k8 : Class := { plain "java/lang/StringLatin1" (some 0) with
  accessFlags := 48
  interfaces := #[]
  cf := some (fileOf pool8 14 #[.nestMembers #[390, 221]] #[{ accessFlags := 0, nameIndex := 7, descriptorIndex := 8, attributes := #[] }, { accessFlags := 9, nameIndex := 90, descriptorIndex := 105, attributes := #[] }, { accessFlags := 9, nameIndex := 380, descriptorIndex := 382, attributes := #[] }] 48 4 #[] #[{ accessFlags := 4120, nameIndex := 121, descriptorIndex := 122, attributes := #[] }])
  fields := #[{ name := "$assertionsDisabled", type := .boolean, accessFlags := 4120, slot := 0, constantValue := 0 }]
  methods := #[k8m0, k8m1, k8m2]
  instanceTypes := #[]
  staticTypes := #[.boolean]
  resolved := Array.replicate 395 none
  statics := none }

def pool9 : Array CpInfo := pool [(2, .class_ 4), (1, u "java/lang/Enum"), (0, u "name"), (0, u "Ljava/lang/String;"), (2, u "ordinal"), (0, u "I"), (1, .class_ 14), (1, u "java/lang/Object"), (4, u "hash"), (86, .class_ 108), (1, u "java/lang/Enum$EnumDesc"), (2, .class_ 112), (0, u "java/lang/constant/Constable"), (0, .class_ 114), (0, u "java/lang/Comparable"), (0, .class_ 116), (0, u "java/io/Serializable")] 87

/-- java/lang/Enum -/
def k9 : Class := { plain "java/lang/Enum" (some 0) with
  accessFlags := 1057
  interfaces := #[5, 3, 2]
  cf := some (fileOf pool9 2 #[.nestMembers #[106]] #[] 1057 12 #[111, 113, 115] #[{ accessFlags := 18, nameIndex := 5, descriptorIndex := 6, attributes := #[] }, { accessFlags := 18, nameIndex := 9, descriptorIndex := 10, attributes := #[] }, { accessFlags := 2, nameIndex := 19, descriptorIndex := 10, attributes := #[] }])
  fields := #[{ name := "name", type := (.object "java/lang/String"), accessFlags := 18, slot := 0, constantValue := 0 }, { name := "ordinal", type := .int, accessFlags := 18, slot := 1, constantValue := 0 }, { name := "hash", type := .int, accessFlags := 2, slot := 2, constantValue := 0 }]
  methods := #[]
  instanceTypes := #[(.object "java/lang/String"), .int, .int]
  staticTypes := #[]
  resolved := Array.replicate 204 none
  statics := none }

def pool10 : Array CpInfo := pool [(1, .class_ 2), (0, u "com/example/votal/votal/log/Template"), (2, u "IMA_NG"), (0, u "Lcom/example/votal/votal/log/Template;"), (2, u "IMA_BUF"), (2, u "$VALUES"), (0, u "[Lcom/example/votal/votal/log/Template;"), (6, .class_ 22), (1, u "java/lang/Enum"), (6, .fieldref 1 30), (0, .nameAndType 31 32), (0, u "mName"), (0, u "Ljava/lang/String;"), (2, u "BY_NAME"), (0, u "Ljava/util/Map;"), (40, u "getName"), (0, u "()Ljava/lang/String;")] 25

def k10c0 : Code := { maxStack := 1, maxLocals := 1, code := prog_53_method_5_code, exceptionTable := #[], attributes := #[] }
def k10m0 : Method := { name := "getName", desc := "()Ljava/lang/String;", sig := { parameters := [], returnType := some (.object "java/lang/String") }, accessFlags := 1, code := some k10c0 }
/-- com/example/votal/votal/log/Template -/
def k10 : Class := { plain "com/example/votal/votal/log/Template" (some 9) with
  accessFlags := 16433
  interfaces := #[]
  cf := some (fileOf pool10 1 #[] #[{ accessFlags := 1, nameIndex := 77, descriptorIndex := 78, attributes := #[] }] 16433 20 #[] #[{ accessFlags := 16409, nameIndex := 5, descriptorIndex := 6, attributes := #[] }, { accessFlags := 16409, nameIndex := 9, descriptorIndex := 6, attributes := #[] }, { accessFlags := 26, nameIndex := 35, descriptorIndex := 36, attributes := #[] }, { accessFlags := 18, nameIndex := 31, descriptorIndex := 32, attributes := #[] }, { accessFlags := 4122, nameIndex := 12, descriptorIndex := 13, attributes := #[] }])
  fields := #[{ name := "IMA_NG", type := (.object "com/example/votal/votal/log/Template"), accessFlags := 16409, slot := 0, constantValue := 0 }, { name := "IMA_BUF", type := (.object "com/example/votal/votal/log/Template"), accessFlags := 16409, slot := 1, constantValue := 0 }, { name := "BY_NAME", type := (.object "java/util/Map"), accessFlags := 26, slot := 2, constantValue := 0 }, { name := "mName", type := (.object "java/lang/String"), accessFlags := 18, slot := 3, constantValue := 0 }, { name := "$VALUES", type := (.array (.object "com/example/votal/votal/log/Template")), accessFlags := 4122, slot := 3, constantValue := 0 }]
  methods := #[k10m0]
  instanceTypes := #[(.object "java/lang/String"), .int, .int, (.object "java/lang/String")]
  staticTypes := #[(.object "com/example/votal/votal/log/Template"), (.object "com/example/votal/votal/log/Template"), (.object "java/util/Map"), (.array (.object "com/example/votal/votal/log/Template"))]
  resolved := Array.replicate 104 none
  statics := some 1 }

def pool11 : Array CpInfo := pool [(1, .methodref 2 3), (0, .class_ 4), (0, .nameAndType 5 6), (0, u "java/lang/Object"), (0, u "<init>"), (0, u "()V"), (0, .fieldref 8 9), (0, .class_ 10), (0, .nameAndType 11 12), (0, u "com/example/votal/votal/log/LogRecord"), (0, u "mPcr"), (0, u "I"), (0, .fieldref 8 14), (0, .nameAndType 15 16), (0, u "mTemplateDigest"), (0, u "[B"), (0, .methodref 18 19), (0, .class_ 20), (0, .nameAndType 21 22), (0, u "com/example/votal/votal/log/Template"), (0, u "getName"), (0, u "()Ljava/lang/String;"), (0, .fieldref 8 24), (0, .nameAndType 25 26), (0, u "mTemplateName"), (0, u "Ljava/lang/String;"), (0, .fieldref 8 28), (0, .nameAndType 29 30), (0, u "mTemplate"), (0, u "Lcom/example/votal/votal/log/Template;"), (0, .fieldref 8 32), (0, .nameAndType 33 26), (0, u "mName"), (0, .fieldref 8 35), (0, .nameAndType 36 37), (0, u "mDigestAlgorithm"), (0, u "Lcom/example/votal/votal/log/DigestAlgorithm;"), (0, .fieldref 8 39), (0, .nameAndType 40 16), (0, u "mDigest"), (0, .fieldref 8 42), (0, .nameAndType 43 12), (0, u "mEventDataOffset"), (0, .fieldref 8 45), (0, .nameAndType 46 16), (0, u "mTemplateData"), (0, .methodref 8 48), (0, .nameAndType 49 50), (0, u "isZero"), (0, u "([B)Z"), (0, .fieldref 8 52), (0, .nameAndType 53 54), (0, u "mViolation"), (0, u "Z"), (18, .class_ 16), (2, u "DIGEST_SEPARATOR"), (2, u "NUL"), (10, u "()[B"), (0, .methodref 73 92), (0, .nameAndType 93 94), (0, u "clone"), (0, u "()Ljava/lang/Object;"), (27, u "TEMPLATE_DIGEST_ALGORITHM"), (45, u "NO_EVENT_DATA"), (2, u "VIOLATION_BYTE"), (0, u "B"), (0, u "(I[BLcom/example/votal/votal/log/Template;Lcom/example/votal/votal/log/DigestAlgorithm;[BLjava/lang/String;I[B)V"), (2, u "(I[BLjava/lang/String;Ljava/lang/String;[B)V"), (10, u "getDigest")] 13

def k11c0 : Code := { maxStack := 2, maxLocals := 9, code := prog_49_method_1_code, exceptionTable := #[], attributes := #[] }
def k11m0 : Method := { name := "<init>", desc := "(I[BLcom/example/votal/votal/log/Template;Lcom/example/votal/votal/log/DigestAlgorithm;[BLjava/lang/String;I[B)V", sig := { parameters := [.int, (.array .byte), (.object "com/example/votal/votal/log/Template"), (.object "com/example/votal/votal/log/DigestAlgorithm"), (.array .byte), (.object "java/lang/String"), .int, (.array .byte)], returnType := none }, accessFlags := 0, code := some k11c0 }
def k11c1 : Code := { maxStack := 2, maxLocals := 6, code := prog_49_method_2_code, exceptionTable := #[], attributes := #[] }
def k11m1 : Method := { name := "<init>", desc := "(I[BLjava/lang/String;Ljava/lang/String;[B)V", sig := { parameters := [.int, (.array .byte), (.object "java/lang/String"), (.object "java/lang/String"), (.array .byte)], returnType := none }, accessFlags := 0, code := some k11c1 }
def k11c2 : Code := { maxStack := 1, maxLocals := 1, code := prog_49_method_10_code, exceptionTable := #[], attributes := #[] }
def k11m2 : Method := { name := "getDigest", desc := "()[B", sig := { parameters := [], returnType := some (.array .byte) }, accessFlags := 1, code := some k11c2 }
def k11c3 : Code := { maxStack := 2, maxLocals := 6, code := prog_49_method_16_code, exceptionTable := #[], attributes := #[] }
def k11m3 : Method := { name := "isZero", desc := "([B)Z", sig := { parameters := [(.array .byte)], returnType := some .boolean }, accessFlags := 10, code := some k11c3 }
/-- com/example/votal/votal/log/LogRecord -/
def k11 : Class := { plain "com/example/votal/votal/log/LogRecord" (some 0) with
  accessFlags := 33
  interfaces := #[]
  cf := some (fileOf pool11 8 #[] #[{ accessFlags := 0, nameIndex := 5, descriptorIndex := 173, attributes := #[] }, { accessFlags := 0, nameIndex := 5, descriptorIndex := 176, attributes := #[] }, { accessFlags := 1, nameIndex := 187, descriptorIndex := 90, attributes := #[] }, { accessFlags := 10, nameIndex := 49, descriptorIndex := 50, attributes := #[] }] 33 2 #[] #[{ accessFlags := 24, nameIndex := 122, descriptorIndex := 37, attributes := #[] }, { accessFlags := 24, nameIndex := 168, descriptorIndex := 12, attributes := #[] }, { accessFlags := 26, nameIndex := 171, descriptorIndex := 172, attributes := #[] }, { accessFlags := 26, nameIndex := 79, descriptorIndex := 16, attributes := #[] }, { accessFlags := 26, nameIndex := 76, descriptorIndex := 16, attributes := #[] }, { accessFlags := 18, nameIndex := 11, descriptorIndex := 12, attributes := #[] }, { accessFlags := 18, nameIndex := 15, descriptorIndex := 16, attributes := #[] }, { accessFlags := 18, nameIndex := 25, descriptorIndex := 26, attributes := #[] }, { accessFlags := 18, nameIndex := 29, descriptorIndex := 30, attributes := #[] }, { accessFlags := 18, nameIndex := 33, descriptorIndex := 26, attributes := #[] }, { accessFlags := 18, nameIndex := 36, descriptorIndex := 37, attributes := #[] }, { accessFlags := 18, nameIndex := 40, descriptorIndex := 16, attributes := #[] }, { accessFlags := 18, nameIndex := 43, descriptorIndex := 12, attributes := #[] }, { accessFlags := 18, nameIndex := 46, descriptorIndex := 16, attributes := #[] }, { accessFlags := 18, nameIndex := 53, descriptorIndex := 54, attributes := #[] }])
  fields := #[{ name := "TEMPLATE_DIGEST_ALGORITHM", type := (.object "com/example/votal/votal/log/DigestAlgorithm"), accessFlags := 24, slot := 0, constantValue := 0 }, { name := "NO_EVENT_DATA", type := .int, accessFlags := 24, slot := 1, constantValue := 0 }, { name := "VIOLATION_BYTE", type := .byte, accessFlags := 26, slot := 2, constantValue := 0 }, { name := "NUL", type := (.array .byte), accessFlags := 26, slot := 3, constantValue := 0 }, { name := "DIGEST_SEPARATOR", type := (.array .byte), accessFlags := 26, slot := 4, constantValue := 0 }, { name := "mPcr", type := .int, accessFlags := 18, slot := 0, constantValue := 0 }, { name := "mTemplateDigest", type := (.array .byte), accessFlags := 18, slot := 1, constantValue := 0 }, { name := "mTemplateName", type := (.object "java/lang/String"), accessFlags := 18, slot := 2, constantValue := 0 }, { name := "mTemplate", type := (.object "com/example/votal/votal/log/Template"), accessFlags := 18, slot := 3, constantValue := 0 }, { name := "mName", type := (.object "java/lang/String"), accessFlags := 18, slot := 4, constantValue := 0 }, { name := "mDigestAlgorithm", type := (.object "com/example/votal/votal/log/DigestAlgorithm"), accessFlags := 18, slot := 5, constantValue := 0 }, { name := "mDigest", type := (.array .byte), accessFlags := 18, slot := 6, constantValue := 0 }, { name := "mEventDataOffset", type := .int, accessFlags := 18, slot := 7, constantValue := 0 }, { name := "mTemplateData", type := (.array .byte), accessFlags := 18, slot := 8, constantValue := 0 }, { name := "mViolation", type := .boolean, accessFlags := 18, slot := 9, constantValue := 0 }]
  methods := #[k11m0, k11m1, k11m2, k11m3]
  instanceTypes := #[.int, (.array .byte), (.object "java/lang/String"), (.object "com/example/votal/votal/log/Template"), (.object "java/lang/String"), (.object "com/example/votal/votal/log/DigestAlgorithm"), (.array .byte), .int, (.array .byte), .boolean]
  staticTypes := #[(.object "com/example/votal/votal/log/DigestAlgorithm"), .int, .byte, (.array .byte), (.array .byte)]
  resolved := Array.replicate 201 none
  statics := none }

def pool12 : Array CpInfo := pool [(1, .class_ 2), (0, u "java/lang/Cloneable"), (0, .class_ 4), (0, u "java/lang/Object")] 2

/-- java/lang/Cloneable -/
def k12 : Class := { plain "java/lang/Cloneable" (some 0) with
  accessFlags := 1537
  interfaces := #[]
  cf := some (fileOf pool12 1 #[] #[] 1537 3 #[] #[])
  fields := #[]
  methods := #[]
  instanceTypes := #[]
  staticTypes := #[]
  resolved := Array.replicate 7 none
  statics := none }

def pool13 : Array CpInfo := pool [(2, .class_ 4), (1, u "java/lang/Object"), (0, u "<init>"), (0, u "()V"), (17, .class_ 26), (1, u "jdk/internal/util/Preconditions"), (28, .class_ 56), (0, u "jdk/internal/util/Preconditions$4"), (57, .class_ 115), (0, u "jdk/internal/util/Preconditions$1"), (7, u "SIOOBE_FORMATTER"), (0, u "Ljava/util/function/BiFunction;"), (0, .class_ 126), (0, u "jdk/internal/util/Preconditions$2"), (3, u "AIOOBE_FORMATTER"), (0, .class_ 132), (0, u "jdk/internal/util/Preconditions$3"), (3, u "IOOBE_FORMATTER")] 57

def k13m0 : Method := { name := "<init>", desc := "()V", sig := { parameters := [], returnType := none }, accessFlags := 1, code := none }
/-- jdk/internal/util/Preconditions -/
def k13 : Class := { plain "jdk/internal/util/Preconditions" (some 0) with
  accessFlags := 33
  interfaces := #[]
  cf := some (fileOf pool13 24 #[.nestMembers #[55, 131, 125, 114]] #[{ accessFlags := 1, nameIndex := 5, descriptorIndex := 6, attributes := #[] }] 33 2 #[] #[{ accessFlags := 25, nameIndex := 123, descriptorIndex := 124, attributes := #[] }, { accessFlags := 25, nameIndex := 130, descriptorIndex := 124, attributes := #[] }, { accessFlags := 25, nameIndex := 136, descriptorIndex := 124, attributes := #[] }])
  fields := #[{ name := "SIOOBE_FORMATTER", type := (.object "java/util/function/BiFunction"), accessFlags := 25, slot := 0, constantValue := 0 }, { name := "AIOOBE_FORMATTER", type := (.object "java/util/function/BiFunction"), accessFlags := 25, slot := 1, constantValue := 0 }, { name := "IOOBE_FORMATTER", type := (.object "java/util/function/BiFunction"), accessFlags := 25, slot := 2, constantValue := 0 }]
  methods := #[k13m0]
  instanceTypes := #[]
  staticTypes := #[(.object "java/util/function/BiFunction"), (.object "java/util/function/BiFunction"), (.object "java/util/function/BiFunction")]
  resolved := Array.replicate 194 none
  statics := some 2 }

def pool14 : Array CpInfo := pool [(9, u "<init>"), (6, .class_ 18), (1, u "java/lang/Object"), (0, u "()V"), (1, .class_ 23), (1, u "jdk/internal/util/ArraysSupport"), (0, u "LOG2_ARRAY_LONG_INDEX_SCALE"), (0, u "I"), (2, u "U"), (0, u "Ljdk/internal/misc/Unsafe;"), (8, u "BIG_ENDIAN"), (0, u "Z"), (8, u "LOG2_BYTE_BIT_SIZE"), (4, u "LOG2_ARRAY_INT_INDEX_SCALE"), (54, u "JLA"), (0, u "Ljdk/internal/access/JavaLangAccess;"), (11, u "LOG2_ARRAY_BOOLEAN_INDEX_SCALE"), (9, u "LOG2_ARRAY_BYTE_INDEX_SCALE"), (5, u "LOG2_ARRAY_CHAR_INDEX_SCALE"), (5, u "LOG2_ARRAY_SHORT_INDEX_SCALE"), (18, u "LOG2_ARRAY_FLOAT_INDEX_SCALE"), (24, u "LOG2_ARRAY_DOUBLE_INDEX_SCALE"), (89, u "T_BOOLEAN"), (2, u "T_CHAR"), (1, u "T_FLOAT"), (1, u "T_DOUBLE"), (1, u "T_BYTE"), (1, u "T_SHORT"), (1, u "T_INT"), (1, u "T_LONG"), (1, u "SOFT_MAX_ARRAY_LENGTH")] 83

def k14m0 : Method := { name := "<init>", desc := "()V", sig := { parameters := [], returnType := none }, accessFlags := 2, code := none }
/-- jdk/internal/util/ArraysSupport -/
def k14 : Class := { plain "jdk/internal/util/ArraysSupport" (some 0) with
  accessFlags := 33
  interfaces := #[]
  cf := some (fileOf pool14 21 #[] #[{ accessFlags := 2, nameIndex := 9, descriptorIndex := 19, attributes := #[] }] 33 16 #[] #[{ accessFlags := 24, nameIndex := 28, descriptorIndex := 29, attributes := #[] }, { accessFlags := 26, nameIndex := 38, descriptorIndex := 39, attributes := #[] }, { accessFlags := 25, nameIndex := 121, descriptorIndex := 25, attributes := #[] }, { accessFlags := 25, nameIndex := 131, descriptorIndex := 25, attributes := #[] }, { accessFlags := 25, nameIndex := 137, descriptorIndex := 25, attributes := #[] }, { accessFlags := 25, nameIndex := 143, descriptorIndex := 25, attributes := #[] }, { accessFlags := 25, nameIndex := 53, descriptorIndex := 25, attributes := #[] }, { accessFlags := 25, nameIndex := 24, descriptorIndex := 25, attributes := #[] }, { accessFlags := 25, nameIndex := 162, descriptorIndex := 25, attributes := #[] }, { accessFlags := 25, nameIndex := 187, descriptorIndex := 25, attributes := #[] }, { accessFlags := 26, nameIndex := 48, descriptorIndex := 25, attributes := #[] }, { accessFlags := 25, nameIndex := 277, descriptorIndex := 25, attributes := #[] }, { accessFlags := 25, nameIndex := 280, descriptorIndex := 25, attributes := #[] }, { accessFlags := 25, nameIndex := 282, descriptorIndex := 25, attributes := #[] }, { accessFlags := 25, nameIndex := 284, descriptorIndex := 25, attributes := #[] }, { accessFlags := 25, nameIndex := 286, descriptorIndex := 25, attributes := #[] }, { accessFlags := 25, nameIndex := 288, descriptorIndex := 25, attributes := #[] }, { accessFlags := 25, nameIndex := 290, descriptorIndex := 25, attributes := #[] }, { accessFlags := 25, nameIndex := 292, descriptorIndex := 25, attributes := #[] }, { accessFlags := 26, nameIndex := 108, descriptorIndex := 109, attributes := #[] }, { accessFlags := 25, nameIndex := 294, descriptorIndex := 25, attributes := #[] }])
  fields := #[{ name := "U", type := (.object "jdk/internal/misc/Unsafe"), accessFlags := 24, slot := 0, constantValue := 0 }, { name := "BIG_ENDIAN", type := .boolean, accessFlags := 26, slot := 1, constantValue := 0 }, { name := "LOG2_ARRAY_BOOLEAN_INDEX_SCALE", type := .int, accessFlags := 25, slot := 2, constantValue := 0 }, { name := "LOG2_ARRAY_BYTE_INDEX_SCALE", type := .int, accessFlags := 25, slot := 3, constantValue := 0 }, { name := "LOG2_ARRAY_CHAR_INDEX_SCALE", type := .int, accessFlags := 25, slot := 4, constantValue := 0 }, { name := "LOG2_ARRAY_SHORT_INDEX_SCALE", type := .int, accessFlags := 25, slot := 5, constantValue := 0 }, { name := "LOG2_ARRAY_INT_INDEX_SCALE", type := .int, accessFlags := 25, slot := 6, constantValue := 0 }, { name := "LOG2_ARRAY_LONG_INDEX_SCALE", type := .int, accessFlags := 25, slot := 7, constantValue := 0 }, { name := "LOG2_ARRAY_FLOAT_INDEX_SCALE", type := .int, accessFlags := 25, slot := 8, constantValue := 0 }, { name := "LOG2_ARRAY_DOUBLE_INDEX_SCALE", type := .int, accessFlags := 25, slot := 9, constantValue := 0 }, { name := "LOG2_BYTE_BIT_SIZE", type := .int, accessFlags := 26, slot := 10, constantValue := 0 }, { name := "T_BOOLEAN", type := .int, accessFlags := 25, slot := 11, constantValue := 0 }, { name := "T_CHAR", type := .int, accessFlags := 25, slot := 12, constantValue := 0 }, { name := "T_FLOAT", type := .int, accessFlags := 25, slot := 13, constantValue := 0 }, { name := "T_DOUBLE", type := .int, accessFlags := 25, slot := 14, constantValue := 0 }, { name := "T_BYTE", type := .int, accessFlags := 25, slot := 15, constantValue := 0 }, { name := "T_SHORT", type := .int, accessFlags := 25, slot := 16, constantValue := 0 }, { name := "T_INT", type := .int, accessFlags := 25, slot := 17, constantValue := 0 }, { name := "T_LONG", type := .int, accessFlags := 25, slot := 18, constantValue := 0 }, { name := "JLA", type := (.object "jdk/internal/access/JavaLangAccess"), accessFlags := 26, slot := 19, constantValue := 0 }, { name := "SOFT_MAX_ARRAY_LENGTH", type := .int, accessFlags := 25, slot := 20, constantValue := 0 }]
  methods := #[k14m0]
  instanceTypes := #[]
  staticTypes := #[(.object "jdk/internal/misc/Unsafe"), .boolean, .int, .int, .int, .int, .int, .int, .int, .int, .int, .int, .int, .int, .int, .int, .int, .int, .int, (.object "jdk/internal/access/JavaLangAccess"), .int]
  resolved := Array.replicate 378 none
  statics := none }

/-- the primitive byte -/
def k15 : Class := { plain "byte" none with kind := .primitive 'B', accessFlags := 0x411 }
/-- [B -/
def k16 : Class := { plain "[B" (some 0) with kind := .array 15 .byte, interfaces := #[12, 2], accessFlags := 1041 }

/-- the primitive int -/
def k17 : Class := { plain "int" none with kind := .primitive 'I', accessFlags := 0x411 }
/-- [I -/
def k18 : Class := { plain "[I" (some 0) with kind := .array 17 .int, interfaces := #[12, 2], accessFlags := 1041 }

def heap : Heap := #[{ cls := 7, slots := #[.long 0, .int 1, .null, .int 0, .null, .int 0, .int 0], vm := .statics 7 },
  { cls := 10, slots := #[.ref 4, .ref 5, .null, .null], vm := .statics 10 },
  { cls := 13, slots := #[.null, .null, .null], vm := .statics 13 },
  { cls := 7, slots := #[.null, .int 0, .int 0, .int 0], vm := .none },
  { cls := 10, slots := #[.null, .int 0, .int 0, .ref 3], vm := .none },
  { cls := 10, slots := #[.null, .int 1, .int 0, .ref 3], vm := .none }]
def classes : Array Class := #[k0, k1, k2, k3, k4, k5, k6, k7, k8, k9, k10, k11, k12, k13, k14, k15, k16, k17, k18]
def interned : List (Array UInt16 × Addr) := []
def slotsUsed : Nat := 26
def theMethod : MethodId := ⟨1, 1⟩
def args0 : Array Value := #[.int 3, .int 4, .int 5, .int 6]
def aboutOver (below : List Frame) : State where
  vm := { classes := classes, interned := interned.toArray }
  heap := heap
  slotsUsed := slotsUsed
  threads := #[{ frames := .invoking theMethod args0 :: below }]
def below0 : List Frame := [.native { method := ⟨0, 0⟩, args := #[] }]
def about1 : State := aboutOver below0
def p0 : Program := .bare "" "" ""
def e0 : Env := launch0.env 0 0 0
theorem w_frames : about1.frames = Frame.invoking theMethod args0 :: below0 := rfl
set_option maxRecDepth 65536 in
theorem w_args : argsFit about1.vm theMethod args0 = true := by decide +kernel
set_option maxRecDepth 65536 in
theorem w_heap : heapFits about1 = true := by decide +kernel
set_option maxRecDepth 65536 in
theorem w_runnable : about1.curStatus? = some .runnable := by decide +kernel
set_option maxRecDepth 65536 in
theorem w_alone : about1.alone = true := by decide +kernel
set_option maxRecDepth 65536 in
theorem w_named : about1.methodNamed? x = some theMethod := by decide +kernel
set_option maxRecDepth 65536 in
theorem w_hears : about1.hears theMethod below0 = true := by decide +kernel
set_option maxRecDepth 65536 in
theorem w_ripe : about1.ripe theMethod args0 below0 = true := by decide +kernel
theorem w_running : about1.status = .running := rfl
set_option maxRecDepth 65536 in
theorem w_room : about1.hasRoom e0.platform room_1 = true :=
  launch0.hasRoom_least _ room_1 (by decide +kernel) (by decide +kernel) (by decide +kernel) (by decide +kernel) (by decide +kernel) (by decide +kernel)
theorem allAtoms_all (ts : List Jvm.Cond) (a : Array Jvm.Value) (st : Jvm.State) : (allAtoms ts).before a st = ts.all (fun c => c.before a st) := by
  induction ts with
  | nil => rfl
  | cons c t ih =>
    show (Jvm.Cond.and c (allAtoms t)).before a st = _
    rw [Jvm.Cond.before_and, ih, List.all_cons]
def words1 : List Jvm.Cond := Jvm.Cond.code x code maxLocals ret :: tables_1
/-- a 'code' word, met by the world's own term for the bytes: nothing is compared byte by byte -/
theorem code_word {y : MethodName} {bytes : ByteArray} {mx : Nat} {rt : Option FieldType} {a : Array Value} {s : State} {m : MethodId} {meth : Method} {c : Code} (h1 : s.methodNamed? y = some m) (h2 : s.vm.method? m = some meth) (h3 : meth.code = some c) (h4 : c.code = bytes)
    (h5 : (c.maxLocals == mx && c.exceptionTable.isEmpty && decide (c.maxStack ≤ mostOperands) && decide (meth.sig.returnType = rt) && !meth.locks && decide (parseMethodDescriptor y.desc = some meth.sig)) = true) : (Jvm.Cond.code y bytes mx rt).before a s = true := by
  simp only [Bool.and_eq_true, beq_iff_eq, Bool.not_eq_true', decide_eq_true_eq] at h5
  obtain ⟨⟨⟨⟨⟨g1, g2⟩, g3⟩, g4⟩, g5⟩, g6⟩ := h5
  simp [Cond.before, Cond.holds, Cond.value, h1, h2, h3, h4, g1, g2, g3, g4, g5, g6]
def isCode : Jvm.Cond → Bool
  | .code _ _ _ _ => true
  | _ => false
theorem all_split {L : List Jvm.Cond} {P : Jvm.Cond → Bool} (h1 : L.all (fun c => isCode c || P c) = true) (h2 : ∀ c ∈ L.filter isCode, P c = true) : L.all P = true := by
  refine List.all_eq_true.mpr fun c hc => ?_
  have h := List.all_eq_true.mp h1 c hc
  rcases Bool.eq_false_or_eq_true (isCode c) with hi | hi
  · exact h2 c (List.mem_filter.mpr ⟨hc, hi⟩)
  · simpa [hi] using h
set_option maxRecDepth 65536 in
theorem w_c0 : (Jvm.Cond.code x code maxLocals ret).before args0 about1 = true := code_word (m := ⟨1, 1⟩) (meth := k1m1) (c := k1c1) (by decide +kernel) rfl rfl rfl (by decide +kernel)
set_option maxRecDepth 65536 in
theorem w_c1 : (Jvm.Cond.code ({ cls := "java/lang/String", name := "valueOf", desc := "(C)Ljava/lang/String;" } : Jvm.MethodName) jdk_42_method_139_code (1 : Nat) (Option.some (Jvm.ClassFile.FieldType.object "java/lang/String"))).before args0 about1 = true := code_word (m := ⟨7, 1⟩) (meth := k7m1) (c := k7c1) (by decide +kernel) rfl rfl rfl (by decide +kernel)
set_option maxRecDepth 65536 in
theorem w_c2 : (Jvm.Cond.code ({ cls := "java/lang/StringLatin1", name := "canEncode", desc := "(C)Z" } : Jvm.MethodName) jdk_43_method_3_code (1 : Nat) (Option.some Jvm.ClassFile.FieldType.boolean)).before args0 about1 = true := code_word (m := ⟨8, 1⟩) (meth := k8m1) (c := k8c1) (by decide +kernel) rfl rfl rfl (by decide +kernel)
set_option maxRecDepth 65536 in
theorem w_c3 : (Jvm.Cond.code ({ cls := "java/lang/StringLatin1", name := "toBytes", desc := "(C)[B" } : Jvm.MethodName) jdk_43_method_46_code (1 : Nat) (Option.some (Jvm.ClassFile.FieldType.array Jvm.ClassFile.FieldType.byte))).before args0 about1 = true := code_word (m := ⟨8, 2⟩) (meth := k8m2) (c := k8c2) (by decide +kernel) rfl rfl rfl (by decide +kernel)
set_option maxRecDepth 65536 in
theorem w_c4 : (Jvm.Cond.code ({ cls := "java/lang/String", name := "<init>", desc := "([BB)V" } : Jvm.MethodName) jdk_42_method_151_code (3 : Nat) (Option.none : Option Jvm.ClassFile.FieldType)).before args0 about1 = true := code_word (m := ⟨7, 2⟩) (meth := k7m2) (c := k7c2) (by decide +kernel) rfl rfl rfl (by decide +kernel)
set_option maxRecDepth 65536 in
theorem w_c5 : (Jvm.Cond.code ({ cls := "java/lang/Object", name := "<init>", desc := "()V" } : Jvm.MethodName) object_method_1_code (1 : Nat) (Option.none : Option Jvm.ClassFile.FieldType)).before args0 about1 = true := code_word (m := ⟨0, 0⟩) (meth := k0m0) (c := k0c0) (by decide +kernel) rfl rfl rfl (by decide +kernel)
set_option maxRecDepth 65536 in
theorem w_c6 : (Jvm.Cond.code ({ cls := "com/example/votal/votal/log/LogRecord", name := "<init>", desc := "(I[BLcom/example/votal/votal/log/Template;Lcom/example/votal/votal/log/DigestAlgorithm;[BLjava/lang/String;I[B)V" } : Jvm.MethodName) prog_49_method_1_code (9 : Nat) (Option.none : Option Jvm.ClassFile.FieldType)).before args0 about1 = true := code_word (m := ⟨11, 0⟩) (meth := k11m0) (c := k11c0) (by decide +kernel) rfl rfl rfl (by decide +kernel)
set_option maxRecDepth 65536 in
theorem w_c7 : (Jvm.Cond.code ({ cls := "com/example/votal/votal/log/Template", name := "getName", desc := "()Ljava/lang/String;" } : Jvm.MethodName) prog_53_method_5_code (1 : Nat) (Option.some (Jvm.ClassFile.FieldType.object "java/lang/String"))).before args0 about1 = true := code_word (m := ⟨10, 0⟩) (meth := k10m0) (c := k10c0) (by decide +kernel) rfl rfl rfl (by decide +kernel)
set_option maxRecDepth 65536 in
theorem w_c8 : (Jvm.Cond.code ({ cls := "com/example/votal/votal/log/LogRecord", name := "isZero", desc := "([B)Z" } : Jvm.MethodName) prog_49_method_16_code (6 : Nat) (Option.some Jvm.ClassFile.FieldType.boolean)).before args0 about1 = true := code_word (m := ⟨11, 3⟩) (meth := k11m3) (c := k11c3) (by decide +kernel) rfl rfl rfl (by decide +kernel)
set_option maxRecDepth 65536 in
theorem w_c9 : (Jvm.Cond.code ({ cls := "com/example/votal/votal/log/LogRecord", name := "getDigest", desc := "()[B" } : Jvm.MethodName) prog_49_method_10_code (1 : Nat) (Option.some (Jvm.ClassFile.FieldType.array Jvm.ClassFile.FieldType.byte))).before args0 about1 = true := code_word (m := ⟨11, 2⟩) (meth := k11m2) (c := k11c2) (by decide +kernel) rfl rfl rfl (by decide +kernel)
set_option maxRecDepth 65536 in
theorem w_c10 : (Jvm.Cond.code ({ cls := "com/example/votal/votal/log/LogRecordGetDigestPinLaw", name := "same", desc := "([BIII)Z" } : Jvm.MethodName) method_3_code (4 : Nat) (Option.some Jvm.ClassFile.FieldType.boolean)).before args0 about1 = true := code_word (m := ⟨1, 2⟩) (meth := k1m2) (c := k1c2) (by decide +kernel) rfl rfl rfl (by decide +kernel)
set_option maxRecDepth 65536 in
theorem w_c11 : (Jvm.Cond.code ({ cls := "com/example/votal/votal/log/LogRecord", name := "<init>", desc := "(I[BLjava/lang/String;Ljava/lang/String;[B)V" } : Jvm.MethodName) prog_49_method_2_code (6 : Nat) (Option.none : Option Jvm.ClassFile.FieldType)).before args0 about1 = true := code_word (m := ⟨11, 1⟩) (meth := k11m1) (c := k11c1) (by decide +kernel) rfl rfl rfl (by decide +kernel)
def codes1 : List Jvm.Cond := [Jvm.Cond.code x code maxLocals ret, Jvm.Cond.code ({ cls := "java/lang/String", name := "valueOf", desc := "(C)Ljava/lang/String;" } : Jvm.MethodName) jdk_42_method_139_code (1 : Nat) (Option.some (Jvm.ClassFile.FieldType.object "java/lang/String")), Jvm.Cond.code ({ cls := "java/lang/StringLatin1", name := "canEncode", desc := "(C)Z" } : Jvm.MethodName) jdk_43_method_3_code (1 : Nat) (Option.some Jvm.ClassFile.FieldType.boolean), Jvm.Cond.code ({ cls := "java/lang/StringLatin1", name := "toBytes", desc := "(C)[B" } : Jvm.MethodName) jdk_43_method_46_code (1 : Nat) (Option.some (Jvm.ClassFile.FieldType.array Jvm.ClassFile.FieldType.byte)), Jvm.Cond.code ({ cls := "java/lang/String", name := "<init>", desc := "([BB)V" } : Jvm.MethodName) jdk_42_method_151_code (3 : Nat) (Option.none : Option Jvm.ClassFile.FieldType), Jvm.Cond.code ({ cls := "java/lang/Object", name := "<init>", desc := "()V" } : Jvm.MethodName) object_method_1_code (1 : Nat) (Option.none : Option Jvm.ClassFile.FieldType), Jvm.Cond.code ({ cls := "com/example/votal/votal/log/LogRecord", name := "<init>", desc := "(I[BLcom/example/votal/votal/log/Template;Lcom/example/votal/votal/log/DigestAlgorithm;[BLjava/lang/String;I[B)V" } : Jvm.MethodName) prog_49_method_1_code (9 : Nat) (Option.none : Option Jvm.ClassFile.FieldType), Jvm.Cond.code ({ cls := "com/example/votal/votal/log/Template", name := "getName", desc := "()Ljava/lang/String;" } : Jvm.MethodName) prog_53_method_5_code (1 : Nat) (Option.some (Jvm.ClassFile.FieldType.object "java/lang/String")), Jvm.Cond.code ({ cls := "com/example/votal/votal/log/LogRecord", name := "isZero", desc := "([B)Z" } : Jvm.MethodName) prog_49_method_16_code (6 : Nat) (Option.some Jvm.ClassFile.FieldType.boolean), Jvm.Cond.code ({ cls := "com/example/votal/votal/log/LogRecord", name := "getDigest", desc := "()[B" } : Jvm.MethodName) prog_49_method_10_code (1 : Nat) (Option.some (Jvm.ClassFile.FieldType.array Jvm.ClassFile.FieldType.byte)), Jvm.Cond.code ({ cls := "com/example/votal/votal/log/LogRecordGetDigestPinLaw", name := "same", desc := "([BIII)Z" } : Jvm.MethodName) method_3_code (4 : Nat) (Option.some Jvm.ClassFile.FieldType.boolean), Jvm.Cond.code ({ cls := "com/example/votal/votal/log/LogRecord", name := "<init>", desc := "(I[BLjava/lang/String;Ljava/lang/String;[B)V" } : Jvm.MethodName) prog_49_method_2_code (6 : Nat) (Option.none : Option Jvm.ClassFile.FieldType)]
set_option maxRecDepth 65536 in
theorem codes_eq : words1.filter isCode = codes1 := rfl
theorem w_codes : ∀ c ∈ words1.filter isCode, c.before args0 about1 = true := by
  rw [codes_eq]
  intro c hc
  simp only [codes1, List.mem_cons, List.not_mem_nil, or_false] at hc
  rcases hc with rfl | rfl | rfl | rfl | rfl | rfl | rfl | rfl | rfl | rfl | rfl | rfl
  · exact w_c0
  · exact w_c1
  · exact w_c2
  · exact w_c3
  · exact w_c4
  · exact w_c5
  · exact w_c6
  · exact w_c7
  · exact w_c8
  · exact w_c9
  · exact w_c10
  · exact w_c11
set_option maxRecDepth 65536 in
theorem w_t1 : (words1.take 24).all (fun c => isCode c || c.before args0 about1) = true := by decide +kernel
set_option maxRecDepth 65536 in
theorem w_t2 : ((words1.drop 24).take 24).all (fun c => isCode c || c.before args0 about1) = true := by decide +kernel
set_option maxRecDepth 65536 in
theorem w_t3 : (((words1.drop 24).drop 24).take 24).all (fun c => isCode c || c.before args0 about1) = true := by decide +kernel
set_option maxRecDepth 65536 in
theorem w_t4 : (((words1.drop 24).drop 24).drop 24).all (fun c => isCode c || c.before args0 about1) = true := by decide +kernel
theorem w_tables : (allAtoms (Jvm.Cond.code x code maxLocals ret :: tables_1)).before args0 about1 = true := by
  rw [allAtoms_all]
  show words1.all (fun c => c.before args0 about1) = true
  refine all_split ?_ w_codes
  rw [← List.take_append_drop 24 words1, List.all_append, w_t1, ← List.take_append_drop 24 (words1.drop 24), List.all_append, w_t2, ← List.take_append_drop 24 ((words1.drop 24).drop 24), List.all_append, w_t3, w_t4]
  rfl
set_option maxRecDepth 65536 in
theorem w_rest : rest_1_c.before args0 about1 = true := by decide +kernel
set_option maxRecDepth 65536 in
theorem w_case : (Jvm.Cond.and given_1 narrow_1).before args0 about1 = true := by decide +kernel
theorem w_applies : (headSpec (Jvm.Cond.code x code maxLocals ret :: tables_1) room_1).applies x e0.platform about1 = true :=
  (Spec.applies_iff w_frames).mpr ⟨w_running, w_runnable, w_alone, w_named, w_hears, w_ripe, w_room, w_tables⟩
theorem atStart : AtStart classFile x code maxLocals ret World_1 tables_1 room_1 Calls_1 rest_1 Pre_1 launch0 p0 e0 about1 theMethod args0 below0 :=
  ⟨lists_1, trivial, launch0.admits_env _ _ _, launch0.least_env, fairChoices_fair.cas, fairChoices_fair.clock, w_frames, w_args, w_heap, w_applies, trivial, w_rest, w_case⟩
end start1
theorem witness_1 : WitnessClaimed_1 := ⟨start1.p0, start1.e0, start1.about1, start1.theMethod, start1.args0, start1.below0, start1.atStart⟩
end Jvm.Pilot.@@N@@
