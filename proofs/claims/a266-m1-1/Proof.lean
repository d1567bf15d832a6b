import JvmDerived
import JvmDerived.Pilot.@@N@@Statement
import JvmDerived.Pilot.@@N@@Code
set_option linter.unusedVariables false
set_option linter.unusedSimpArgs false
namespace Jvm.RoadKit
open Sem ClassFile Op Lib Jvm.Stand Jvm.Free Jvm.LawKit
section New
variable {p : Program} {l : Launch} {e : Env} {R : Room} {s : State} {m : MethodId} {args : Array Value} {below : List Frame} {meth : Method} {c : Code} {T : State} {locs : List Loc} {cells slots : Nat}
theorem retI (X : Stand p l e R s m args below meth c T locs cells slots) (hx : p.tables.exec = Jvm.exec) {pc : Nat} {Ls : Array Slot} {z : Int32} {rest : List Value} (hret : meth.sig.returnType = some .int) (hd : decode c.code pc = .ok (.ireturn, 1)) {fs : List Frame}
    (hl : ∀ (f : JFrame) (acts : List Action), f.method = m → f.locked = none → f.entered = [] → (doReturn e (T.setTop f) acts (some (.int z))).1 = T.setFrames fs) : Steps p.tables e below (T.setTop (mkF m pc Ls (.int z :: rest))) (T.setFrames fs) := by
  have hm' : T.vm.method? m = some meth := X.method'
  have hn : narrow .int (.int z) = .int z := rfl
  show Steps p.tables e below (T.setTop { method := m, pc := pc, locals := Ls, stack := _ :: rest, locked := none }) _
  jvm_step X.here [X.here.top, hx, hd, hm', hret, hn]
  first | (intro acts; rw [hl _ acts rfl rfl rfl]) | rw [hl _ _ rfl rfl rfl]
  exact Steps.refl _
end New
end Jvm.RoadKit
namespace Jvm.Pilot.@@N@@
open Jvm Jvm.ClassFile Sem Op Lib Jvm.Free Jvm.Stand Jvm.LawKit Jvm.RoadKit Bundle Jvm.Pilot.@@N@@.Jvm.D
/-- an array of n components, the i-th holding f i -/
def own_Ar (Z : State) (h : Heap) (a : Addr) (ty : FieldType) (n : Nat) (f : Nat → Value) : Prop :=
  ∃ c : Cell, Arr Z h a c ty ∧ c.slots.size = n ∧ n < 2147483648 ∧ (∀ i, i < n → c.slots[i]? = some (f i)) ∧ ∀ i, i < n → fits ty (f i) = true
theorem own_nat {j : Int32} (q : 0 ≤ j.toInt) : (j.toNatClampNeg : Int) = j.toInt := by
  simp only [Int32.toNatClampNeg]; omega
theorem own_lt0 {j : Int32} (q : 0 ≤ j.toInt) : ¬ j < 0 := by
  rw [Int32.lt_iff_toInt_lt]; have : (0 : Int32).toInt = 0 := rfl; omega
theorem own_ge0 {j : Int32} (q : ¬ j < 0) : 0 ≤ j.toInt := by
  rw [Int32.lt_iff_toInt_lt] at q; have : (0 : Int32).toInt = 0 := rfl; omega
theorem own_Ar.lt {Z : State} {h : Heap} {a : Addr} {ty : FieldType} {n : Nat} {f : Nat → Value} (F : own_Ar Z h a ty n f) : a < h.size := by obtain ⟨c, A, -⟩ := F; exact A.lt
theorem own_Ar.ext {Z : State} {h h' : Heap} {a : Addr} {ty : FieldType} {n : Nat} {f : Nat → Value} (F : own_Ar Z h a ty n f) (E : Ext h h') : own_Ar Z h' a ty n f := by obtain ⟨c, A, r⟩ := F; exact ⟨c, A.ext E, r⟩
theorem own_Ar.other {Z : State} {h h' : Heap} {a b : Addr} {sl : Nat} {v : Value} {ty : FieldType} {n : Nat} {f : Nat → Value} (F : own_Ar Z h b ty n f) (W : Wr h h' a sl v) (q : b ≠ a) : own_Ar Z h' b ty n f := by obtain ⟨c, A, r⟩ := F; exact ⟨c, A.other W q, r⟩
theorem own_Ar.keep {Z : State} {h h' : Heap} {a : Addr} {ws : List Addr} {ty : FieldType} {n : Nat} {f : Nat → Value} (F : own_Ar Z h a ty n f) (K : Keep h h' ws) (q : a ∉ ws) : own_Ar Z h' a ty n f := by obtain ⟨c, A, r⟩ := F; exact ⟨c, ⟨K.2.1 a c A.1 q, A.2⟩, r⟩
theorem own_Ar.eq {Z : State} {h : Heap} {a : Addr} {ty : FieldType} {n : Nat} {f g : Nat → Value} (F : own_Ar Z h a ty n f) (q : ∀ i, i < n → f i = g i) : own_Ar Z h a ty n g := by
  obtain ⟨c, A, r1, r2, r3, r4⟩ := F
  exact ⟨c, A, r1, r2, fun i hi => by rw [← q i hi]; exact r3 i hi, fun i hi => by rw [← q i hi]; exact r4 i hi⟩
theorem own_Ar.size {Z : State} {h : Heap} {a : Addr} {ty : FieldType} {n m : Nat} {f : Nat → Value} (F : own_Ar Z h a ty n f) (q : n = m) : own_Ar Z h a ty m f := q ▸ F
theorem own_fits_default (ty : FieldType) : fits ty (defaultValue ty) = true := by cases ty <;> rfl
/-- a new array -/
theorem own_Ar.new {Z : State} {h : Heap} {a : Addr} {k : ClassId} {ty : FieldType} {z : Int32} {n : Nat} (A : Arr Z h a (newA k ty z) ty) (q : z.toInt = n) : own_Ar Z h a ty n (fun _ => defaultValue ty) := by
  have e : z.toNatClampNeg = n := by have := own_nat (j := z) (by omega); omega
  obtain ⟨c, A', q1, S, q3, H, G⟩ := Arv.new A (own_lt0 (by omega))
  have r := z.toInt_lt
  refine ⟨c, A', S.trans e, by omega, fun i hi => by rw [H i (by omega)]; rfl, fun i hi => own_fits_default ty⟩
/-- a component read -/
theorem own_Ar.at {Z : State} {h : Heap} {a : Addr} {ty : FieldType} {n : Nat} {f : Nat → Value} (F : own_Ar Z h a ty n f) {j : Int32} {i : Nat} (hj : j.toInt = i) (hi : i < n) :
    ∃ c : Cell, Arr Z h a c ty ∧ ¬ (j < 0 ∨ c.slots.size ≤ j.toNatClampNeg) ∧ c.slots[j.toNatClampNeg]? = some (f i) := by
  obtain ⟨c, A, r1, r2, r3, r4⟩ := F
  have e : j.toNatClampNeg = i := by have := own_nat (j := j) (by omega); omega
  refine ⟨c, A, fun q => q.elim (own_lt0 (by omega)) (fun u => by omega), by rw [e]; exact r3 i hi⟩
/-- its length -/
theorem own_Ar.len {Z : State} {h : Heap} {a : Addr} {ty : FieldType} {n : Nat} {f : Nat → Value} (F : own_Ar Z h a ty n f) : ∃ c : Cell, Arr Z h a c ty ∧ c.slots.size.toInt32 = Int32.ofNat n ∧ n < 2147483648 := by
  obtain ⟨c, A, r1, r2, r3, r4⟩ := F
  exact ⟨c, A, by rw [r1], r2⟩
theorem own_ofNat {n : Nat} (h : n < 2147483648) : (Int32.ofNat n).toInt = n := Int32.toInt_ofNat_of_lt (by omega)
/-- a component written -/
theorem own_Ar.set {Z : State} {h h' : Heap} {a : Addr} {ty : FieldType} {n : Nat} {f : Nat → Value} {v : Value} (F : own_Ar Z h a ty n f) {j : Int32} {i : Nat} (hj : j.toInt = i) (W : Wr h h' a j.toNatClampNeg v) (hv : fits ty v = true) :
    own_Ar Z h' a ty n (fun k => if k = i then v else f k) := by
  obtain ⟨c, A, r1, r2, r3, r4⟩ := F
  have e : j.toNatClampNeg = i := by have := own_nat (j := j) (by omega); omega
  obtain ⟨c', q1, q2, q3, q4, q5, q6, q7⟩ := wr_at W A.1
  obtain ⟨q8, q9, q10⟩ := q7 rfl
  have A' := A.same W
  rw [← q8] at A'
  refine ⟨c', A', q4.trans r1, r2, fun k hk => ?_, fun k hk => ?_⟩ <;> dsimp only
  · by_cases u : k = i
    · subst u; rw [if_pos rfl, ← e]; exact q9
    · rw [if_neg u, q6 k (by omega)]; exact r3 k hk
  · by_cases u : k = i
    · rw [if_pos u]; exact hv
    · rw [if_neg u]; exact r4 k hk
theorem own_ins {j : Int32} {n i : Nat} {c : Cell} (r1 : c.slots.size = n) (hj : j.toInt = i) (hi : i < n) : ¬ (j < 0 ∨ c.slots.size ≤ j.toNatClampNeg) := by
  have e : j.toNatClampNeg = i := by have := own_nat (j := j) (by omega); omega
  exact fun q => q.elim (own_lt0 (by omega)) (fun u => by omega)
theorem own_Ar.arv {Z : State} {h : Heap} {a : Addr} {ty : FieldType} {n : Nat} {f : Nat → Value} (F : own_Ar Z h a ty n f) (d : Value) : ∃ k, Arv Z h a k ty (Int32.ofNat n) ((List.range n).map f) d := by
  obtain ⟨c, A, r1, r2, r3, r4⟩ := F
  have e := own_ofNat r2
  have e2 : (Int32.ofNat n).toNatClampNeg = n := by have := own_nat (j := Int32.ofNat n) (by omega); omega
  refine ⟨c.cls, c, A, rfl, by rw [e2]; exact r1, own_lt0 (by omega), fun i hi => ?_, fun i hi => ?_⟩
  · rw [r3 i (by omega)]; simp [List.getD, show i < n by omega]
  · have := r4 i (by omega); simpa [List.getD, show i < n by omega] using this
theorem own_Ar.of_arv {Z : State} {h : Heap} {a : Addr} {k : ClassId} {ty : FieldType} {z : Int32} {vs : List Value} {d : Value} {n : Nat} (F : Arv Z h a k ty z vs d) (q : z.toInt = n) : own_Ar Z h a ty n (fun i => vs.getD i d) := by
  obtain ⟨c, A, r1, r2, r3, H, G⟩ := F
  have e : z.toNatClampNeg = n := by have := own_nat (j := z) (by omega); omega
  have r := z.toInt_lt
  exact ⟨c, A, r2.trans e, by omega, fun i hi => H i (by omega), fun i hi => G i (by omega)⟩
theorem own_cp {p : Program} {l : Launch} {e : Env} {R : Room} {s : State} {m : MethodId} {args : Array Value} {below : List Frame} {meth : Method} {c : Code} {T : State} {locs : List Loc} {cells slots : Nat} {Z : State} {h : Heap} {a b : Addr}
    (X : Stand p l e R s m args below meth c T locs cells slots) (hx : p.tables.exec = Jvm.exec) (hZ : Z.Warmed39 s.vm) {a0 : Array Value} {own : String} {index : Nat} (hown : s.vm.findClass own = some m.cls)
    (w1 : (Cond.methodLink own index Jvm.Stand.acN).before a0 Z = true) (w2 : (Cond.native Jvm.Stand.acN).before a0 Z = true) (w3 : (Cond.static Jvm.Stand.acN).before a0 Z = true) (w4 : (Cond.initialized "java/lang/System").before a0 Z = true) (eT : T.heap = h)
    {ty : FieldType} {n n' : Nat} {f f' : Nat → Value} (A : own_Ar Z h a ty n f) (B : own_Ar Z h b ty n' f') (hp : refKind ty = false) {k : Nat} (hk1 : k ≤ n) (hk2 : k ≤ n') {nn : Int32} (hnn : nn.toInt = k) {n0 : Nat} (N : Fr n0 locs) (ge : n0 ≤ b)
    {g : JFrame} (hg : g.method = m) (hsize : g.locals.size = c.maxLocals) {rest : List Value} (hs : g.stack = .int nn :: .int 0 :: .ref b :: .int 0 :: .ref a :: rest) (hd : decode c.code g.pc = .ok (.invokestatic index, 3))
    (hf : 1 ≤ R.frames) {W : Nat} (hW : 2 * g.monitorRoom + (rest.map fun v => v.category).sum ≤ W) (hlo : W + (nativeFrameWords "java/lang/System" "arraycopy" 5 + 11) ≤ R.locals) :
    ∃ T' h' L, Stand p l e R s m args below meth c T' L cells slots ∧ T'.heap = h' ∧ Fr n0 L ∧ Keep h h' [b] ∧ own_Ar Z h' b ty n' (fun i => if i < k then f i else f' i) ∧
      ∀ target, Steps p.tables e below (T'.setTop { g with pc := g.pc + 3, stack := rest }) target → Steps p.tables e below (T.setTop g) target := by
  obtain ⟨kA, VA⟩ := A.arv .null
  obtain ⟨kB, VB⟩ := B.arv .null
  have hn : n < 2147483648 := by obtain ⟨_, _, _, r, _⟩ := A; exact r
  have hn' : n' < 2147483648 := by obtain ⟨_, _, _, r, _⟩ := B; exact r
  have en := own_ofNat hn
  have en' := own_ofNat hn'
  have e1 : (Int32.ofNat n).toNatClampNeg = n := by have := own_nat (j := Int32.ofNat n) (by omega); omega
  have e2 : (Int32.ofNat n').toNatClampNeg = n' := by have := own_nat (j := Int32.ofNat n') (by omega); omega
  have e3 : nn.toNatClampNeg = k := by have := own_nat (j := nn) (by omega); omega
  have e0 : (0 : Int32).toNatClampNeg = 0 := rfl
  obtain ⟨T', h', L, X', eT', N', K', V', st⟩ := cpA X hx hZ hown w1 w2 w3 w4 eT (sp := 0) (dp := 0) (nn := nn) VA VB (Or.inl ⟨rfl, hp⟩) (by decide) (by decide) (own_lt0 (by omega)) (by rw [e1, e3, e0]; omega) (by rw [e2, e3, e0]; omega) rfl (by rw [e3, e0, List.length_map, List.length_range]; omega) N ge hg hsize hs hd hf hW hlo
  refine ⟨T', h', L, X', eT', N', K', ?_, st⟩
  refine (own_Ar.of_arv V' en').eq fun i hi => ?_
  rw [e3, e0]
  simp only [List.take_zero, List.nil_append, Nat.zero_add, List.getD_eq_getElem?_getD]
  by_cases u : i < k
  · rw [if_pos u, List.getElem?_append_left (by simpa using u)]
    simp [u, show i < n by omega]
  · rw [if_neg u, List.getElem?_append_right (by simpa using Nat.le_of_not_lt u)]
    simp only [List.length_map, List.length_range, List.getElem?_drop, show k + (i - k) = i by omega]
    simp [hi]
def own_max (p1 p2 : Int32) : Int32 := if p1 < p2 then p2 else p1
theorem own_max_t {p1 p2 : Int32} (h : p1 < p2) : own_max p1 p2 = p2 := if_pos h
theorem own_max_f {p1 p2 : Int32} (h : ¬ p1 < p2) : own_max p1 p2 = p1 := if_neg h
def own_min (p1 p2 : Int32) : Int32 := if p2 < p1 then p2 else p1
theorem own_min_t {p1 p2 : Int32} (h : p2 < p1) : own_min p1 p2 = p2 := if_pos h
theorem own_min_f {p1 p2 : Int32} (h : ¬ p2 < p1) : own_min p1 p2 = p1 := if_neg h
def own_maxL (p1 p2 : Int64) : Int64 := if p1 < p2 then p2 else p1
theorem own_maxL_t {p1 p2 : Int64} (h : p1 < p2) : own_maxL p1 p2 = p2 := if_pos h
theorem own_maxL_f {p1 p2 : Int64} (h : ¬ p1 < p2) : own_maxL p1 p2 = p1 := if_neg h
def own_minL (p1 p2 : Int64) : Int64 := if p2 < p1 then p2 else p1
theorem own_minL_t {p1 p2 : Int64} (h : p2 < p1) : own_minL p1 p2 = p2 := if_pos h
theorem own_minL_f {p1 p2 : Int64} (h : ¬ p2 < p1) : own_minL p1 p2 = p1 := if_neg h
theorem own_lt_of {p q : Int32} (h : p.toInt < q.toInt) : p < q := Int32.lt_iff_toInt_lt.mpr h
theorem own_nlt_of {p q : Int32} (h : q.toInt ≤ p.toInt) : ¬ p < q := fun u => by rw [Int32.lt_iff_toInt_lt] at u; omega
theorem own_ltL_of {p q : Int64} (h : p.toInt < q.toInt) : p < q := Int64.lt_iff_toInt_lt.mpr h
theorem own_nltL_of {p q : Int64} (h : q.toInt ≤ p.toInt) : ¬ p < q := fun u => by rw [Int64.lt_iff_toInt_lt] at u; omega
theorem own_ne_of {p q : Int32} (h : p.toInt ≠ q.toInt) : ¬ p = q := fun u => h (by rw [u])
theorem own_eq_of {p q : Int32} (h : p.toInt = q.toInt) : p = q := Int32.toInt_inj.mp h
def own_T (Z : State) (h : Heap) (n0 : Nat) (a1 : Addr) (sz used : Int32) (b1 b2 b3 b4 b5 bB : Addr) (f1 f2 f3 f4 f5 : Nat → Value) (nB : Nat) (fB : Nat → Value) : Prop :=
  Exa Z h a1 "com/example/termwright/termwright/TokenList" ∧ Fld Z h a1 "com/example/termwright/termwright/TokenList" "size" "I" (.int sz) ∧ Fld Z h a1 "com/example/termwright/termwright/TokenList" "termBytesUsed" "I" (.int used) ∧ Fld Z h a1 "com/example/termwright/termwright/TokenList" "starts" "[I" (.ref b1) ∧ Fld Z h a1 "com/example/termwright/termwright/TokenList" "ends" "[I" (.ref b2) ∧ Fld Z h a1 "com/example/termwright/termwright/TokenList" "termStarts" "[I" (.ref b3) ∧ Fld Z h a1 "com/example/termwright/termwright/TokenList" "termEnds" "[I" (.ref b4) ∧ Fld Z h a1 "com/example/termwright/termwright/TokenList" "termChars" "[I" (.ref b5) ∧ Fld Z h a1 "com/example/termwright/termwright/TokenList" "termBytes" "[B" (.ref bB) ∧ own_Ar Z h b1 .int 16 f1 ∧ own_Ar Z h b2 .int 16 f2 ∧ own_Ar Z h b3 .int 16 f3 ∧ own_Ar Z h b4 .int 16 f4 ∧ own_Ar Z h b5 .int 16 f5 ∧ own_Ar Z h bB .byte nB fB ∧ a1 ≠ b1 ∧ a1 ≠ b2 ∧ a1 ≠ b3 ∧ a1 ≠ b4 ∧ a1 ≠ b5 ∧ a1 ≠ bB ∧ b1 ≠ b2 ∧ b1 ≠ b3 ∧ b1 ≠ b4 ∧ b1 ≠ b5 ∧ b1 ≠ bB ∧ b2 ≠ b3 ∧ b2 ≠ b4 ∧ b2 ≠ b5 ∧ b2 ≠ bB ∧ b3 ≠ b4 ∧ b3 ≠ b5 ∧ b3 ≠ bB ∧ b4 ≠ b5 ∧ b4 ≠ bB ∧ b5 ≠ bB ∧ n0 ≤ b1 ∧ n0 ≤ b2 ∧ n0 ≤ b3 ∧ n0 ≤ b4 ∧ n0 ≤ b5 ∧ n0 ≤ bB
theorem own_selfsel {s Z : State} {a0 args : Array Value} {y : MethodName} {n : Nat} (hZ : Z.Warmed39 s.vm) (wi : (Cond.instantiable y.cls n).before a0 Z = true) (wp : (Cond.privateMethod y).before a0 Z = true) (wm : (Cond.instanceMethod y).before a0 Z = true) (hy : y.cls ≠ "java/lang/invoke/MethodHandle" ∧ y.cls ≠ "java/lang/invoke/VarHandle") : (Cond.selects y.cls y y).before args s = true := by
  obtain ⟨c, k, h1, h2, h3, h4, -, -⟩ := Cond.instantiable_spec (mvT hZ wi : (Cond.instantiable y.cls n).before args s = true)
  exact Jvm.Stand.selects_self_of_private h1 h2 (Bool.or_eq_false_iff.mp h4).1 (Cond.privateMethod_at (mvP hZ wp (args := args))) (mvT hZ wm) hy
def own_gl (p : Int32) (q : Int64) : Int32 := (own_maxL q (own_minL 2147483639 (2 * p.toInt64))).toInt32
theorem own_gl_v {p : Int32} {n : Nat} (hp : p.toInt = n) (h1 : 256 < n) (h2 : n ≤ 65535) : ∃ k : Nat, (own_gl (Int32.ofNat 256) ((0 : Int32).toInt64 + p.toInt64)).toInt = k ∧ 256 < k ∧ k ≤ 65535 := by
  have a := c_i2l p
  have z0 : (0 : Int32).toInt64 = 0 := by decide
  have e0 : (0 : Int32).toInt64 + p.toInt64 = p.toInt64 := by rw [z0, Int64.zero_add]
  have e1 : own_minL 2147483639 (2 * (Int32.ofNat 256).toInt64) = 512 := by decide
  unfold own_gl
  rw [e0, e1]
  have z5 : (512 : Int64).toInt = 512 := rfl
  by_cases q : p.toInt64 < 512
  · rw [own_maxL_t q]; exact ⟨512, by decide, by decide, by decide⟩
  · rw [own_maxL_f q]
    rw [Int64.lt_iff_toInt_lt] at q
    have b := c_l2i p.toInt64
    have r := rng32 p.toInt64.toInt32
    exact ⟨n, by omega, by omega, by omega⟩
theorem own_room {p : Int32} : ∃ n : Nat, (p &&& (65535 : Int32)).toInt = n ∧ n ≤ 65535 := by
  have a := c_and p 65535 (by decide)
  have z : (65535 : Int32).toInt = 65535 := rfl
  exact ⟨(p &&& 65535).toInt.toNat, by omega, by omega⟩
theorem own_p1 {x : Int32} {n : Nat} (h : x.toInt = n) (q : n ≤ 65535) : (x + 1).toInt = (n + 1 : Nat) := by
  have a := c_iadd x 1
  have r := rng32 (x + 1)
  have z : (1 : Int32).toInt = 1 := rfl
  omega
theorem own_nz {x : Int32} {n : Nat} (h : x.toInt = (n + 1 : Nat)) : x ≠ 0 := fun u => by rw [u] at h; have z : (0 : Int32).toInt = 0 := rfl; omega
theorem own_remle {p x : Int32} {n : Nat} (h : x.toInt = (n + 1 : Nat)) : 0 ≤ ((p &&& (2147483647 : Int32)) % x).toInt ∧ ((p &&& (2147483647 : Int32)) % x).toInt ≤ n := by
  have a := c_and p 2147483647 (by decide)
  have b := (c_iremV (p &&& 2147483647) x).1 a.1 (by omega)
  omega
theorem own_sub0 (n : Nat) (h : n < 2147483648) : (Int32.ofNat n - (0 : Int32)).toInt = n := by
  have a := own_ofNat h
  have b := c_isub (Int32.ofNat n) 0
  have r := rng32 (Int32.ofNat n - 0)
  have z : (0 : Int32).toInt = 0 := rfl
  omega
theorem own_dec1 : ((0 : Int32) + (1 : Int32) - (1 : Int32)).toInt = (0 : Nat) := by decide
theorem pd_0 : parseMethodDescriptor "()V" = some ⟨[], none⟩ := by decide +kernel
theorem pd_1 : parseMethodDescriptor "()[B" = some ⟨[], some (.array .byte)⟩ := by decide +kernel
theorem pd_2 : parseMethodDescriptor "()I" = some ⟨[], some .int⟩ := by decide +kernel
theorem pd_3 : parseMethodDescriptor "(III)I" = some ⟨[.int, .int, .int], some .int⟩ := by decide +kernel
theorem pd_4 : parseMethodDescriptor "(I)V" = some ⟨[.int], none⟩ := by decide +kernel
theorem pd_5 : parseMethodDescriptor "(I)I" = some ⟨[.int], some .int⟩ := by decide +kernel
theorem pd_6 : parseMethodDescriptor "(II)V" = some ⟨[.int, .int], none⟩ := by decide +kernel
theorem pd_7 : parseMethodDescriptor "(IJ)I" = some ⟨[.int, .long], some .int⟩ := by decide +kernel
theorem pd_8 : parseMethodDescriptor "(JJ)J" = some ⟨[.long, .long], some .long⟩ := by decide +kernel
theorem pd_9 : parseMethodDescriptor "([BI)[B" = some ⟨[(.array .byte), .int], some (.array .byte)⟩ := by decide +kernel
theorem pd_10 : parseMethodDescriptor "(II)I" = some ⟨[.int, .int], some .int⟩ := by decide +kernel
theorem pd_11 : parseMethodDescriptor "(Ljava/lang/Object;ILjava/lang/Object;II)V" = some ⟨[(.object "java/lang/Object"), .int, (.object "java/lang/Object"), .int, .int], none⟩ := by decide +kernel
theorem d1_0 : decode prog_224_method_1_code 0 = .ok (.aload_n 0, 1) := by decide +kernel
theorem d1_1 : decode prog_224_method_1_code 1 = .ok (.invokespecial 1, 3) := by decide +kernel
theorem d1_4 : decode prog_224_method_1_code 4 = .ok (.aload_n 0, 1) := by decide +kernel
theorem d1_5 : decode prog_224_method_1_code 5 = .ok (.bipush 16, 2) := by decide +kernel
theorem d1_7 : decode prog_224_method_1_code 7 = .ok (.newarray .int, 2) := by decide +kernel
theorem d1_9 : decode prog_224_method_1_code 9 = .ok (.putfield 9, 3) := by decide +kernel
theorem d1_12 : decode prog_224_method_1_code 12 = .ok (.aload_n 0, 1) := by decide +kernel
theorem d1_13 : decode prog_224_method_1_code 13 = .ok (.bipush 16, 2) := by decide +kernel
theorem d1_15 : decode prog_224_method_1_code 15 = .ok (.newarray .int, 2) := by decide +kernel
theorem d1_17 : decode prog_224_method_1_code 17 = .ok (.putfield 13, 3) := by decide +kernel
theorem d1_20 : decode prog_224_method_1_code 20 = .ok (.aload_n 0, 1) := by decide +kernel
theorem d1_21 : decode prog_224_method_1_code 21 = .ok (.bipush 16, 2) := by decide +kernel
theorem d1_23 : decode prog_224_method_1_code 23 = .ok (.newarray .int, 2) := by decide +kernel
theorem d1_25 : decode prog_224_method_1_code 25 = .ok (.putfield 16, 3) := by decide +kernel
theorem d1_28 : decode prog_224_method_1_code 28 = .ok (.aload_n 0, 1) := by decide +kernel
theorem d1_29 : decode prog_224_method_1_code 29 = .ok (.bipush 16, 2) := by decide +kernel
theorem d1_31 : decode prog_224_method_1_code 31 = .ok (.newarray .int, 2) := by decide +kernel
theorem d1_33 : decode prog_224_method_1_code 33 = .ok (.putfield 19, 3) := by decide +kernel
theorem d1_36 : decode prog_224_method_1_code 36 = .ok (.aload_n 0, 1) := by decide +kernel
theorem d1_37 : decode prog_224_method_1_code 37 = .ok (.bipush 16, 2) := by decide +kernel
theorem d1_39 : decode prog_224_method_1_code 39 = .ok (.newarray .int, 2) := by decide +kernel
theorem d1_41 : decode prog_224_method_1_code 41 = .ok (.putfield 22, 3) := by decide +kernel
theorem d1_44 : decode prog_224_method_1_code 44 = .ok (.aload_n 0, 1) := by decide +kernel
theorem d1_45 : decode prog_224_method_1_code 45 = .ok (.sipush 256, 3) := by decide +kernel
theorem d1_48 : decode prog_224_method_1_code 48 = .ok (.newarray .byte, 2) := by decide +kernel
theorem d1_50 : decode prog_224_method_1_code 50 = .ok (.putfield 25, 3) := by decide +kernel
theorem d1_53 : decode prog_224_method_1_code 53 = .ok (.return_, 1) := by decide +kernel
theorem pn_1 : plainName "com/example/termwright/termwright/TokenList" = true := by first | (simp [plainName, overriddenIn]; done) | decide +kernel
theorem d3_0 : decode prog_224_method_8_code 0 = .ok (.aload_n 0, 1) := by decide +kernel
theorem d3_1 : decode prog_224_method_8_code 1 = .ok (.getfield 25, 3) := by decide +kernel
theorem d3_4 : decode prog_224_method_8_code 4 = .ok (.areturn, 1) := by decide +kernel
theorem pn_3 : plainName "com/example/termwright/termwright/TokenList" = true := by first | (simp [plainName, overriddenIn]; done) | decide +kernel
theorem d4_0 : decode prog_224_method_2_code 0 = .ok (.aload_n 0, 1) := by decide +kernel
theorem d4_1 : decode prog_224_method_2_code 1 = .ok (.iconst 0, 1) := by decide +kernel
theorem d4_2 : decode prog_224_method_2_code 2 = .ok (.putfield 29, 3) := by decide +kernel
theorem d4_5 : decode prog_224_method_2_code 5 = .ok (.aload_n 0, 1) := by decide +kernel
theorem d4_6 : decode prog_224_method_2_code 6 = .ok (.iconst 0, 1) := by decide +kernel
theorem d4_7 : decode prog_224_method_2_code 7 = .ok (.putfield 33, 3) := by decide +kernel
theorem d4_10 : decode prog_224_method_2_code 10 = .ok (.aload_n 0, 1) := by decide +kernel
theorem d4_11 : decode prog_224_method_2_code 11 = .ok (.getfield 9, 3) := by decide +kernel
theorem d4_14 : decode prog_224_method_2_code 14 = .ok (.arraylength, 1) := by decide +kernel
theorem d4_15 : decode prog_224_method_2_code 15 = .ok (.sipush 1024, 3) := by decide +kernel
theorem d4_18 : decode prog_224_method_2_code 18 = .ok (.if_icmp .le 48, 3) := by decide +kernel
theorem d4_21 : decode prog_224_method_2_code 21 = .ok (.aload_n 0, 1) := by decide +kernel
theorem d4_22 : decode prog_224_method_2_code 22 = .ok (.sipush 1024, 3) := by decide +kernel
theorem d4_25 : decode prog_224_method_2_code 25 = .ok (.newarray .int, 2) := by decide +kernel
theorem d4_27 : decode prog_224_method_2_code 27 = .ok (.putfield 9, 3) := by decide +kernel
theorem d4_30 : decode prog_224_method_2_code 30 = .ok (.aload_n 0, 1) := by decide +kernel
theorem d4_31 : decode prog_224_method_2_code 31 = .ok (.sipush 1024, 3) := by decide +kernel
theorem d4_34 : decode prog_224_method_2_code 34 = .ok (.newarray .int, 2) := by decide +kernel
theorem d4_36 : decode prog_224_method_2_code 36 = .ok (.putfield 13, 3) := by decide +kernel
theorem d4_39 : decode prog_224_method_2_code 39 = .ok (.aload_n 0, 1) := by decide +kernel
theorem d4_40 : decode prog_224_method_2_code 40 = .ok (.sipush 1024, 3) := by decide +kernel
theorem d4_43 : decode prog_224_method_2_code 43 = .ok (.newarray .int, 2) := by decide +kernel
theorem d4_45 : decode prog_224_method_2_code 45 = .ok (.putfield 16, 3) := by decide +kernel
theorem d4_48 : decode prog_224_method_2_code 48 = .ok (.aload_n 0, 1) := by decide +kernel
theorem d4_49 : decode prog_224_method_2_code 49 = .ok (.sipush 1024, 3) := by decide +kernel
theorem d4_52 : decode prog_224_method_2_code 52 = .ok (.newarray .int, 2) := by decide +kernel
theorem d4_54 : decode prog_224_method_2_code 54 = .ok (.putfield 19, 3) := by decide +kernel
theorem d4_57 : decode prog_224_method_2_code 57 = .ok (.aload_n 0, 1) := by decide +kernel
theorem d4_58 : decode prog_224_method_2_code 58 = .ok (.sipush 1024, 3) := by decide +kernel
theorem d4_61 : decode prog_224_method_2_code 61 = .ok (.newarray .int, 2) := by decide +kernel
theorem d4_63 : decode prog_224_method_2_code 63 = .ok (.putfield 22, 3) := by decide +kernel
theorem d4_66 : decode prog_224_method_2_code 66 = .ok (.aload_n 0, 1) := by decide +kernel
theorem d4_67 : decode prog_224_method_2_code 67 = .ok (.getfield 25, 3) := by decide +kernel
theorem d4_70 : decode prog_224_method_2_code 70 = .ok (.arraylength, 1) := by decide +kernel
theorem d4_71 : decode prog_224_method_2_code 71 = .ok (.sipush 16384, 3) := by decide +kernel
theorem d4_74 : decode prog_224_method_2_code 74 = .ok (.if_icmp .le 12, 3) := by decide +kernel
theorem d4_77 : decode prog_224_method_2_code 77 = .ok (.aload_n 0, 1) := by decide +kernel
theorem d4_78 : decode prog_224_method_2_code 78 = .ok (.sipush 16384, 3) := by decide +kernel
theorem d4_81 : decode prog_224_method_2_code 81 = .ok (.newarray .byte, 2) := by decide +kernel
theorem d4_83 : decode prog_224_method_2_code 83 = .ok (.putfield 25, 3) := by decide +kernel
theorem d4_86 : decode prog_224_method_2_code 86 = .ok (.return_, 1) := by decide +kernel
theorem pn_4 : plainName "com/example/termwright/termwright/TokenList" = true := by first | (simp [plainName, overriddenIn]; done) | decide +kernel
theorem d5_0 : decode prog_224_method_3_code 0 = .ok (.aload_n 0, 1) := by decide +kernel
theorem d5_1 : decode prog_224_method_3_code 1 = .ok (.getfield 29, 3) := by decide +kernel
theorem d5_4 : decode prog_224_method_3_code 4 = .ok (.ireturn, 1) := by decide +kernel
theorem pn_5 : plainName "com/example/termwright/termwright/TokenList" = true := by first | (simp [plainName, overriddenIn]; done) | decide +kernel
theorem d6_0 : decode prog_224_method_11_code 0 = .ok (.aload_n 0, 1) := by decide +kernel
theorem d6_1 : decode prog_224_method_11_code 1 = .ok (.getfield 29, 3) := by decide +kernel
theorem d6_4 : decode prog_224_method_11_code 4 = .ok (.aload_n 0, 1) := by decide +kernel
theorem d6_5 : decode prog_224_method_11_code 5 = .ok (.getfield 9, 3) := by decide +kernel
theorem d6_8 : decode prog_224_method_11_code 8 = .ok (.arraylength, 1) := by decide +kernel
theorem d6_9 : decode prog_224_method_11_code 9 = .ok (.if_icmp .ne 85, 3) := by decide +kernel
theorem d6_12 : decode prog_224_method_11_code 12 = .ok (.aload_n 0, 1) := by decide +kernel
theorem d6_13 : decode prog_224_method_11_code 13 = .ok (.getfield 9, 3) := by decide +kernel
theorem d6_16 : decode prog_224_method_11_code 16 = .ok (.arraylength, 1) := by decide +kernel
theorem d6_17 : decode prog_224_method_11_code 17 = .ok (.aload_n 0, 1) := by decide +kernel
theorem d6_18 : decode prog_224_method_11_code 18 = .ok (.getfield 29, 3) := by decide +kernel
theorem d6_21 : decode prog_224_method_11_code 21 = .ok (.iconst 1, 1) := by decide +kernel
theorem d6_22 : decode prog_224_method_11_code 22 = .ok (.iadd, 1) := by decide +kernel
theorem d6_23 : decode prog_224_method_11_code 23 = .ok (.i2l, 1) := by decide +kernel
theorem d6_24 : decode prog_224_method_11_code 24 = .ok (.invokestatic 36, 3) := by decide +kernel
theorem d6_27 : decode prog_224_method_11_code 27 = .ok (.istore 4, 2) := by decide +kernel
theorem d6_29 : decode prog_224_method_11_code 29 = .ok (.aload_n 0, 1) := by decide +kernel
theorem d6_30 : decode prog_224_method_11_code 30 = .ok (.aload_n 0, 1) := by decide +kernel
theorem d6_31 : decode prog_224_method_11_code 31 = .ok (.getfield 9, 3) := by decide +kernel
theorem d6_34 : decode prog_224_method_11_code 34 = .ok (.iload 4, 2) := by decide +kernel
theorem d6_36 : decode prog_224_method_11_code 36 = .ok (.invokestatic 40, 3) := by decide +kernel
theorem d6_39 : decode prog_224_method_11_code 39 = .ok (.putfield 9, 3) := by decide +kernel
theorem d6_42 : decode prog_224_method_11_code 42 = .ok (.aload_n 0, 1) := by decide +kernel
theorem d6_43 : decode prog_224_method_11_code 43 = .ok (.aload_n 0, 1) := by decide +kernel
theorem d6_44 : decode prog_224_method_11_code 44 = .ok (.getfield 13, 3) := by decide +kernel
theorem d6_47 : decode prog_224_method_11_code 47 = .ok (.iload 4, 2) := by decide +kernel
theorem d6_49 : decode prog_224_method_11_code 49 = .ok (.invokestatic 40, 3) := by decide +kernel
theorem d6_52 : decode prog_224_method_11_code 52 = .ok (.putfield 13, 3) := by decide +kernel
theorem d6_55 : decode prog_224_method_11_code 55 = .ok (.aload_n 0, 1) := by decide +kernel
theorem d6_56 : decode prog_224_method_11_code 56 = .ok (.aload_n 0, 1) := by decide +kernel
theorem d6_57 : decode prog_224_method_11_code 57 = .ok (.getfield 16, 3) := by decide +kernel
theorem d6_60 : decode prog_224_method_11_code 60 = .ok (.iload 4, 2) := by decide +kernel
theorem d6_62 : decode prog_224_method_11_code 62 = .ok (.invokestatic 40, 3) := by decide +kernel
theorem d6_65 : decode prog_224_method_11_code 65 = .ok (.putfield 16, 3) := by decide +kernel
theorem d6_68 : decode prog_224_method_11_code 68 = .ok (.aload_n 0, 1) := by decide +kernel
theorem d6_69 : decode prog_224_method_11_code 69 = .ok (.aload_n 0, 1) := by decide +kernel
theorem d6_70 : decode prog_224_method_11_code 70 = .ok (.getfield 19, 3) := by decide +kernel
theorem d6_73 : decode prog_224_method_11_code 73 = .ok (.iload 4, 2) := by decide +kernel
theorem d6_75 : decode prog_224_method_11_code 75 = .ok (.invokestatic 40, 3) := by decide +kernel
theorem d6_78 : decode prog_224_method_11_code 78 = .ok (.putfield 19, 3) := by decide +kernel
theorem d6_81 : decode prog_224_method_11_code 81 = .ok (.aload_n 0, 1) := by decide +kernel
theorem d6_82 : decode prog_224_method_11_code 82 = .ok (.aload_n 0, 1) := by decide +kernel
theorem d6_83 : decode prog_224_method_11_code 83 = .ok (.getfield 22, 3) := by decide +kernel
theorem d6_86 : decode prog_224_method_11_code 86 = .ok (.iload 4, 2) := by decide +kernel
theorem d6_88 : decode prog_224_method_11_code 88 = .ok (.invokestatic 40, 3) := by decide +kernel
theorem d6_91 : decode prog_224_method_11_code 91 = .ok (.putfield 22, 3) := by decide +kernel
theorem d6_94 : decode prog_224_method_11_code 94 = .ok (.aload_n 0, 1) := by decide +kernel
theorem d6_95 : decode prog_224_method_11_code 95 = .ok (.iload_n 3, 1) := by decide +kernel
theorem d6_96 : decode prog_224_method_11_code 96 = .ok (.invokevirtual 46, 3) := by decide +kernel
theorem d6_99 : decode prog_224_method_11_code 99 = .ok (.aload_n 0, 1) := by decide +kernel
theorem d6_100 : decode prog_224_method_11_code 100 = .ok (.getfield 9, 3) := by decide +kernel
theorem d6_103 : decode prog_224_method_11_code 103 = .ok (.aload_n 0, 1) := by decide +kernel
theorem d6_104 : decode prog_224_method_11_code 104 = .ok (.getfield 29, 3) := by decide +kernel
theorem d6_107 : decode prog_224_method_11_code 107 = .ok (.iload_n 1, 1) := by decide +kernel
theorem d6_108 : decode prog_224_method_11_code 108 = .ok (.iastore, 1) := by decide +kernel
theorem d6_109 : decode prog_224_method_11_code 109 = .ok (.aload_n 0, 1) := by decide +kernel
theorem d6_110 : decode prog_224_method_11_code 110 = .ok (.getfield 13, 3) := by decide +kernel
theorem d6_113 : decode prog_224_method_11_code 113 = .ok (.aload_n 0, 1) := by decide +kernel
theorem d6_114 : decode prog_224_method_11_code 114 = .ok (.getfield 29, 3) := by decide +kernel
theorem d6_117 : decode prog_224_method_11_code 117 = .ok (.iload_n 2, 1) := by decide +kernel
theorem d6_118 : decode prog_224_method_11_code 118 = .ok (.iastore, 1) := by decide +kernel
theorem d6_119 : decode prog_224_method_11_code 119 = .ok (.aload_n 0, 1) := by decide +kernel
theorem d6_120 : decode prog_224_method_11_code 120 = .ok (.getfield 16, 3) := by decide +kernel
theorem d6_123 : decode prog_224_method_11_code 123 = .ok (.aload_n 0, 1) := by decide +kernel
theorem d6_124 : decode prog_224_method_11_code 124 = .ok (.getfield 29, 3) := by decide +kernel
theorem d6_127 : decode prog_224_method_11_code 127 = .ok (.aload_n 0, 1) := by decide +kernel
theorem d6_128 : decode prog_224_method_11_code 128 = .ok (.getfield 33, 3) := by decide +kernel
theorem d6_131 : decode prog_224_method_11_code 131 = .ok (.iastore, 1) := by decide +kernel
theorem d6_132 : decode prog_224_method_11_code 132 = .ok (.aload_n 0, 1) := by decide +kernel
theorem d6_133 : decode prog_224_method_11_code 133 = .ok (.getfield 19, 3) := by decide +kernel
theorem d6_136 : decode prog_224_method_11_code 136 = .ok (.aload_n 0, 1) := by decide +kernel
theorem d6_137 : decode prog_224_method_11_code 137 = .ok (.getfield 29, 3) := by decide +kernel
theorem d6_140 : decode prog_224_method_11_code 140 = .ok (.aload_n 0, 1) := by decide +kernel
theorem d6_141 : decode prog_224_method_11_code 141 = .ok (.getfield 33, 3) := by decide +kernel
theorem d6_144 : decode prog_224_method_11_code 144 = .ok (.iastore, 1) := by decide +kernel
theorem d6_145 : decode prog_224_method_11_code 145 = .ok (.aload_n 0, 1) := by decide +kernel
theorem d6_146 : decode prog_224_method_11_code 146 = .ok (.getfield 22, 3) := by decide +kernel
theorem d6_149 : decode prog_224_method_11_code 149 = .ok (.aload_n 0, 1) := by decide +kernel
theorem d6_150 : decode prog_224_method_11_code 150 = .ok (.getfield 29, 3) := by decide +kernel
theorem d6_153 : decode prog_224_method_11_code 153 = .ok (.iconst 0, 1) := by decide +kernel
theorem d6_154 : decode prog_224_method_11_code 154 = .ok (.iastore, 1) := by decide +kernel
theorem d6_155 : decode prog_224_method_11_code 155 = .ok (.aload_n 0, 1) := by decide +kernel
theorem d6_156 : decode prog_224_method_11_code 156 = .ok (.dup, 1) := by decide +kernel
theorem d6_157 : decode prog_224_method_11_code 157 = .ok (.getfield 29, 3) := by decide +kernel
theorem d6_160 : decode prog_224_method_11_code 160 = .ok (.iconst 1, 1) := by decide +kernel
theorem d6_161 : decode prog_224_method_11_code 161 = .ok (.iadd, 1) := by decide +kernel
theorem d6_162 : decode prog_224_method_11_code 162 = .ok (.putfield 29, 3) := by decide +kernel
theorem d6_165 : decode prog_224_method_11_code 165 = .ok (.aload_n 0, 1) := by decide +kernel
theorem d6_166 : decode prog_224_method_11_code 166 = .ok (.getfield 33, 3) := by decide +kernel
theorem d6_169 : decode prog_224_method_11_code 169 = .ok (.ireturn, 1) := by decide +kernel
theorem pn_6 : plainName "com/example/termwright/termwright/TokenList" = true := by first | (simp [plainName, overriddenIn]; done) | decide +kernel
theorem d7_0 : decode prog_224_method_15_code 0 = .ok (.iload_n 1, 1) := by decide +kernel
theorem d7_1 : decode prog_224_method_15_code 1 = .ok (.aload_n 0, 1) := by decide +kernel
theorem d7_2 : decode prog_224_method_15_code 2 = .ok (.getfield 25, 3) := by decide +kernel
theorem d7_5 : decode prog_224_method_15_code 5 = .ok (.arraylength, 1) := by decide +kernel
theorem d7_6 : decode prog_224_method_15_code 6 = .ok (.aload_n 0, 1) := by decide +kernel
theorem d7_7 : decode prog_224_method_15_code 7 = .ok (.getfield 33, 3) := by decide +kernel
theorem d7_10 : decode prog_224_method_15_code 10 = .ok (.isub, 1) := by decide +kernel
theorem d7_11 : decode prog_224_method_15_code 11 = .ok (.if_icmp .le 30, 3) := by decide +kernel
theorem d7_14 : decode prog_224_method_15_code 14 = .ok (.aload_n 0, 1) := by decide +kernel
theorem d7_15 : decode prog_224_method_15_code 15 = .ok (.aload_n 0, 1) := by decide +kernel
theorem d7_16 : decode prog_224_method_15_code 16 = .ok (.getfield 25, 3) := by decide +kernel
theorem d7_19 : decode prog_224_method_15_code 19 = .ok (.aload_n 0, 1) := by decide +kernel
theorem d7_20 : decode prog_224_method_15_code 20 = .ok (.getfield 25, 3) := by decide +kernel
theorem d7_23 : decode prog_224_method_15_code 23 = .ok (.arraylength, 1) := by decide +kernel
theorem d7_24 : decode prog_224_method_15_code 24 = .ok (.aload_n 0, 1) := by decide +kernel
theorem d7_25 : decode prog_224_method_15_code 25 = .ok (.getfield 33, 3) := by decide +kernel
theorem d7_28 : decode prog_224_method_15_code 28 = .ok (.i2l, 1) := by decide +kernel
theorem d7_29 : decode prog_224_method_15_code 29 = .ok (.iload_n 1, 1) := by decide +kernel
theorem d7_30 : decode prog_224_method_15_code 30 = .ok (.i2l, 1) := by decide +kernel
theorem d7_31 : decode prog_224_method_15_code 31 = .ok (.ladd, 1) := by decide +kernel
theorem d7_32 : decode prog_224_method_15_code 32 = .ok (.invokestatic 36, 3) := by decide +kernel
theorem d7_35 : decode prog_224_method_15_code 35 = .ok (.invokestatic 83, 3) := by decide +kernel
theorem d7_38 : decode prog_224_method_15_code 38 = .ok (.putfield 25, 3) := by decide +kernel
theorem d7_41 : decode prog_224_method_15_code 41 = .ok (.return_, 1) := by decide +kernel
theorem pn_7 : plainName "com/example/termwright/termwright/TokenList" = true := by first | (simp [plainName, overriddenIn]; done) | decide +kernel
theorem d8_0 : decode prog_224_method_4_code 0 = .ok (.aload_n 0, 1) := by decide +kernel
theorem d8_1 : decode prog_224_method_4_code 1 = .ok (.getfield 9, 3) := by decide +kernel
theorem d8_4 : decode prog_224_method_4_code 4 = .ok (.iload_n 1, 1) := by decide +kernel
theorem d8_5 : decode prog_224_method_4_code 5 = .ok (.iaload, 1) := by decide +kernel
theorem d8_6 : decode prog_224_method_4_code 6 = .ok (.ireturn, 1) := by decide +kernel
theorem pn_8 : plainName "com/example/termwright/termwright/TokenList" = true := by first | (simp [plainName, overriddenIn]; done) | decide +kernel
theorem d9_0 : decode prog_224_method_12_code 0 = .ok (.aload_n 0, 1) := by decide +kernel
theorem d9_1 : decode prog_224_method_12_code 1 = .ok (.iload_n 1, 1) := by decide +kernel
theorem d9_2 : decode prog_224_method_12_code 2 = .ok (.putfield 33, 3) := by decide +kernel
theorem d9_5 : decode prog_224_method_12_code 5 = .ok (.aload_n 0, 1) := by decide +kernel
theorem d9_6 : decode prog_224_method_12_code 6 = .ok (.getfield 19, 3) := by decide +kernel
theorem d9_9 : decode prog_224_method_12_code 9 = .ok (.aload_n 0, 1) := by decide +kernel
theorem d9_10 : decode prog_224_method_12_code 10 = .ok (.getfield 29, 3) := by decide +kernel
theorem d9_13 : decode prog_224_method_12_code 13 = .ok (.iconst 1, 1) := by decide +kernel
theorem d9_14 : decode prog_224_method_12_code 14 = .ok (.isub, 1) := by decide +kernel
theorem d9_15 : decode prog_224_method_12_code 15 = .ok (.iload_n 1, 1) := by decide +kernel
theorem d9_16 : decode prog_224_method_12_code 16 = .ok (.iastore, 1) := by decide +kernel
theorem d9_17 : decode prog_224_method_12_code 17 = .ok (.aload_n 0, 1) := by decide +kernel
theorem d9_18 : decode prog_224_method_12_code 18 = .ok (.getfield 22, 3) := by decide +kernel
theorem d9_21 : decode prog_224_method_12_code 21 = .ok (.aload_n 0, 1) := by decide +kernel
theorem d9_22 : decode prog_224_method_12_code 22 = .ok (.getfield 29, 3) := by decide +kernel
theorem d9_25 : decode prog_224_method_12_code 25 = .ok (.iconst 1, 1) := by decide +kernel
theorem d9_26 : decode prog_224_method_12_code 26 = .ok (.isub, 1) := by decide +kernel
theorem d9_27 : decode prog_224_method_12_code 27 = .ok (.iload_n 2, 1) := by decide +kernel
theorem d9_28 : decode prog_224_method_12_code 28 = .ok (.iastore, 1) := by decide +kernel
theorem d9_29 : decode prog_224_method_12_code 29 = .ok (.return_, 1) := by decide +kernel
theorem pn_9 : plainName "com/example/termwright/termwright/TokenList" = true := by first | (simp [plainName, overriddenIn]; done) | decide +kernel
theorem d10_0 : decode prog_224_method_16_code 0 = .ok (.lload_n 1, 1) := by decide +kernel
theorem d10_1 : decode prog_224_method_16_code 1 = .ok (.ldc2_w 88, 3) := by decide +kernel
theorem d10_4 : decode prog_224_method_16_code 4 = .ok (.ldc2_w 90, 3) := by decide +kernel
theorem d10_7 : decode prog_224_method_16_code 7 = .ok (.iload_n 0, 1) := by decide +kernel
theorem d10_8 : decode prog_224_method_16_code 8 = .ok (.i2l, 1) := by decide +kernel
theorem d10_9 : decode prog_224_method_16_code 9 = .ok (.lmul, 1) := by decide +kernel
theorem d10_10 : decode prog_224_method_16_code 10 = .ok (.invokestatic 92, 3) := by decide +kernel
theorem d10_13 : decode prog_224_method_16_code 13 = .ok (.invokestatic 98, 3) := by decide +kernel
theorem d10_16 : decode prog_224_method_16_code 16 = .ok (.l2i, 1) := by decide +kernel
theorem d10_17 : decode prog_224_method_16_code 17 = .ok (.ireturn, 1) := by decide +kernel
theorem pn_10 : plainName "com/example/termwright/termwright/TokenList" = true := by first | (simp [plainName, overriddenIn]; done) | decide +kernel
theorem d11_0 : decode jdk_29_method_70_code 0 = .ok (.lload_n 0, 1) := by decide +kernel
theorem d11_1 : decode jdk_29_method_70_code 1 = .ok (.lload_n 2, 1) := by decide +kernel
theorem d11_2 : decode jdk_29_method_70_code 2 = .ok (.lcmp, 1) := by decide +kernel
theorem d11_3 : decode jdk_29_method_70_code 3 = .ok (.ifCond .gt 7, 3) := by decide +kernel
theorem d11_6 : decode jdk_29_method_70_code 6 = .ok (.lload_n 0, 1) := by decide +kernel
theorem d11_7 : decode jdk_29_method_70_code 7 = .ok (.goto 4, 3) := by decide +kernel
theorem d11_10 : decode jdk_29_method_70_code 10 = .ok (.lload_n 2, 1) := by decide +kernel
theorem d11_11 : decode jdk_29_method_70_code 11 = .ok (.lreturn, 1) := by decide +kernel
theorem d12_0 : decode jdk_29_method_66_code 0 = .ok (.lload_n 0, 1) := by decide +kernel
theorem d12_1 : decode jdk_29_method_66_code 1 = .ok (.lload_n 2, 1) := by decide +kernel
theorem d12_2 : decode jdk_29_method_66_code 2 = .ok (.lcmp, 1) := by decide +kernel
theorem d12_3 : decode jdk_29_method_66_code 3 = .ok (.ifCond .lt 7, 3) := by decide +kernel
theorem d12_6 : decode jdk_29_method_66_code 6 = .ok (.lload_n 0, 1) := by decide +kernel
theorem d12_7 : decode jdk_29_method_66_code 7 = .ok (.goto 4, 3) := by decide +kernel
theorem d12_10 : decode jdk_29_method_66_code 10 = .ok (.lload_n 2, 1) := by decide +kernel
theorem d12_11 : decode jdk_29_method_66_code 11 = .ok (.lreturn, 1) := by decide +kernel
theorem d13_0 : decode jdk_65_method_121_code 0 = .ok (.iload_n 1, 1) := by decide +kernel
theorem d13_1 : decode jdk_65_method_121_code 1 = .ok (.aload_n 0, 1) := by decide +kernel
theorem d13_2 : decode jdk_65_method_121_code 2 = .ok (.arraylength, 1) := by decide +kernel
theorem d13_3 : decode jdk_65_method_121_code 3 = .ok (.if_icmp .ne 11, 3) := by decide +kernel
theorem d13_6 : decode jdk_65_method_121_code 6 = .ok (.aload_n 0, 1) := by decide +kernel
theorem d13_7 : decode jdk_65_method_121_code 7 = .ok (.invokevirtual 310, 3) := by decide +kernel
theorem d13_10 : decode jdk_65_method_121_code 10 = .ok (.checkcast 311, 3) := by decide +kernel
theorem d13_13 : decode jdk_65_method_121_code 13 = .ok (.areturn, 1) := by decide +kernel
theorem d13_14 : decode jdk_65_method_121_code 14 = .ok (.iload_n 1, 1) := by decide +kernel
theorem d13_15 : decode jdk_65_method_121_code 15 = .ok (.newarray .byte, 2) := by decide +kernel
theorem d13_17 : decode jdk_65_method_121_code 17 = .ok (.astore_n 2, 1) := by decide +kernel
theorem d13_18 : decode jdk_65_method_121_code 18 = .ok (.aload_n 0, 1) := by decide +kernel
theorem d13_19 : decode jdk_65_method_121_code 19 = .ok (.iconst 0, 1) := by decide +kernel
theorem d13_20 : decode jdk_65_method_121_code 20 = .ok (.aload_n 2, 1) := by decide +kernel
theorem d13_21 : decode jdk_65_method_121_code 21 = .ok (.iconst 0, 1) := by decide +kernel
theorem d13_22 : decode jdk_65_method_121_code 22 = .ok (.aload_n 0, 1) := by decide +kernel
theorem d13_23 : decode jdk_65_method_121_code 23 = .ok (.arraylength, 1) := by decide +kernel
theorem d13_24 : decode jdk_65_method_121_code 24 = .ok (.iload_n 1, 1) := by decide +kernel
theorem d13_25 : decode jdk_65_method_121_code 25 = .ok (.invokestatic 304, 3) := by decide +kernel
theorem d13_28 : decode jdk_65_method_121_code 28 = .ok (.invokestatic 150, 3) := by decide +kernel
theorem d13_31 : decode jdk_65_method_121_code 31 = .ok (.aload_n 2, 1) := by decide +kernel
theorem d13_32 : decode jdk_65_method_121_code 32 = .ok (.areturn, 1) := by decide +kernel
theorem pn_13 : plainName "java/util/Arrays" = true := by first | (simp [plainName, overriddenIn]; done) | decide +kernel
theorem d14_0 : decode jdk_29_method_69_code 0 = .ok (.iload_n 0, 1) := by decide +kernel
theorem d14_1 : decode jdk_29_method_69_code 1 = .ok (.iload_n 1, 1) := by decide +kernel
theorem d14_2 : decode jdk_29_method_69_code 2 = .ok (.if_icmp .gt 7, 3) := by decide +kernel
theorem d14_5 : decode jdk_29_method_69_code 5 = .ok (.iload_n 0, 1) := by decide +kernel
theorem d14_6 : decode jdk_29_method_69_code 6 = .ok (.goto 4, 3) := by decide +kernel
theorem d14_9 : decode jdk_29_method_69_code 9 = .ok (.iload_n 1, 1) := by decide +kernel
theorem d14_10 : decode jdk_29_method_69_code 10 = .ok (.ireturn, 1) := by decide +kernel
theorem pn_0 : plainName "com/example/termwright/termwright/TokenListClearPinLaw" = true := by first | (simp [plainName, overriddenIn]; done) | decide +kernel
theorem ef_rm11 (m : MethodId) (x0 : Int64) (x1 : Int64) : entryFrame m #[(.long x0), (.long x1)] 4 = mkF m 0 #[.val (.long x0), .second, .val (.long x1), .second] [] := by first | (simp [entryFrame, mkF, argsToLocals, Value.category]; done) | rfl
def Q11 (Z : State) (q1 : Int64) (q2 : Int64) (h0 : Heap) (n0 : Nat) (v : Option Value) (h : Heap) (L : List Loc) : Prop := v = some (.long (own_minL q1 q2)) ∧ Fr n0 L ∧ h = h0
set_option maxRecDepth 65536 in
set_option maxHeartbeats 40000000 in
theorem rm11 (l : Launch) (Z : State) (a0 : Array Value) (hw : ∀ d ∈ tables_1, d.before a0 Z = true) (ws : List Jvm.Cond) (q1 : Int64) (q2 : Int64) (h0 : Heap) (n0 : Nat) (Z0 : n0 ≤ h0.size) :
    MetFree l (⟨"java/lang/Math", "min", "(JJ)J"⟩ : MethodName) (head1 (Jvm.Cond.code (⟨"java/lang/Math", "min", "(JJ)J"⟩ : MethodName) jdk_29_method_70_code 4 (some .long) :: ws) ({ frames := 0, cells := 0, slots := 0, locals := 0 } : Room)) (fun a U => a = #[(.long q1), (.long q2)] ∧ Z.Warmed39 U.vm ∧ U.heap = h0) (fun _ _ _ _ _ => True) (fun _ U o U' => ∃ v L, o = .returned v ∧ Q11 Z q1 q2 h0 n0 v U'.heap L ∧ FrameEnd U o U' L ({ frames := 0, cells := 0, slots := 0, locals := 0 } : Room).cells ({ frames := 0, cells := 0, slots := 0, locals := 0 } : Room).slots) := by
  refine MetFree.of_bodySF (Jvm.Free.JP.mathPlain rfl (by decide +kernel)) hisR ?_
  intro p e s m args below meth c s₁ Bd hml0 hP hK
  obtain ⟨rfl, hZ, hh⟩ := hP
  have hx := Bd.exec
  have hby := Bd.bytes
  have hml : c.maxLocals = 4 := hml0
  have hown : s.vm.findClass "java/lang/Math" = some m.cls := findClass_of_methodNamed Bd.named
  have hnm := (name_of_methodNamed Bd.named Bd.method).1
  have X0 : Stand p l e ({ frames := 0, cells := 0, slots := 0, locals := 0 } : Room) s m #[(.long q1), (.long q2)] below meth c s₁ [] 0 0 := Stand.of_body Bd
  have e0 : s₁.heap = h0 := by rw [← hh, Bd.state]; rfl
  have N0 := Fr.nil n0
  have a0s : ∀ t, Steps p.tables e below (s₁.setTop (mkF m 0 #[.val (.long q1), .second, .val (.long q2), .second] [])) t → Steps p.tables e below (s₁.setTop (entryFrame m #[(.long q1), (.long q2)] 4)) t := fun t k => castTop (ef_rm11 m q1 q2) k
  have ac1 : ∀ t, Steps p.tables e below (s₁.setTop (mkF m 3 #[.val (.long q1), .second, .val (.long q2), .second] [(.int (lcmpW q1 q2))])) t → Steps p.tables e below (s₁.setTop (entryFrame m #[(.long q1), (.long q2)] 4)) t := fun t k => a0s t (by
      show Steps p.tables e below (s₁.setTop (mkF m 0 #[.val (.long q1), .second, .val (.long q2), .second] [])) _
      refine XS.lloadN X0.here hx rfl (hb hby d11_0) rfl ?_
      show Steps p.tables e below (s₁.setTop (mkF m 1 #[.val (.long q1), .second, .val (.long q2), .second] [(.long q1)])) _
      refine XS.lloadN X0.here hx rfl (hb hby d11_1) rfl ?_
      show Steps p.tables e below (s₁.setTop (mkF m 2 #[.val (.long q1), .second, .val (.long q2), .second] [(.long q2), (.long q1)])) _
      refine XS.lcmp X0.here hx rfl (hb hby d11_2) rfl ?_
      exact k)
  by_cases hm : q2 < q1
  ·
    have ac2 : ∀ t, Steps p.tables e below (s₁.setTop (mkF m 11 #[.val (.long q1), .second, .val (.long q2), .second] [(.long q2)])) t → Steps p.tables e below (s₁.setTop (entryFrame m #[(.long q1), (.long q2)] 4)) t := fun t k => ac1 t (by
        show Steps p.tables e below (s₁.setTop (mkF m 3 #[.val (.long q1), .second, .val (.long q2), .second] [(.int (lcmpW q1 q2))])) _
        refine XS.ifYes X0.here hx rfl (pc0 := 3) (pc' := 10) rfl (hb hby d11_3) rfl ((if0 _ _).trans (tlt ((lw_gt _ _).mpr hm)).2.2.1) (by decide) (by decide) ?_
        show Steps p.tables e below (s₁.setTop (mkF m 10 #[.val (.long q1), .second, .val (.long q2), .second] [])) _
        refine XS.lloadN X0.here hx rfl (hb hby d11_10) rfl ?_
        exact k)
    obtain ⟨fs, hr, hrun, hended, hW, hsame⟩ := X0.leave (v := some (.long q2)) (fun h => by rw [Bd.returns] at h; cases h) (BodyLoose.notSynchronized Bd)
    refine ⟨_, _, ac2 _ ?_, hrun, hended, _, _, rfl, ?_, ⟨_, rfl⟩, hW, hsame.mono (by decide) (by decide)⟩
    · show Steps p.tables e below (s₁.setTop (mkF m 11 #[.val (.long q1), .second, .val (.long q2), .second] [(.long q2)])) _
      exact retOut X0 hx Bd.returns rfl (Or.inr (Or.inl ⟨rfl, rfl, _, rfl⟩)) (hb hby d11_11) hr
    · show Q11 Z q1 q2 h0 n0 _ s₁.heap _
      rw [e0]
      exact ⟨(congrArg (fun z => some (Value.long z)) (own_minL_t hm)).symm, N0, rfl⟩
  ·
    have ac3 : ∀ t, Steps p.tables e below (s₁.setTop (mkF m 11 #[.val (.long q1), .second, .val (.long q2), .second] [(.long q1)])) t → Steps p.tables e below (s₁.setTop (entryFrame m #[(.long q1), (.long q2)] 4)) t := fun t k => ac1 t (by
        show Steps p.tables e below (s₁.setTop (mkF m 3 #[.val (.long q1), .second, .val (.long q2), .second] [(.int (lcmpW q1 q2))])) _
        refine XS.ifNo X0.here hx rfl (hb hby d11_3) rfl ((if0 _ _).trans (flt (mt (lw_gt _ _).mp hm)).2.2.1) ?_
        show Steps p.tables e below (s₁.setTop (mkF m 6 #[.val (.long q1), .second, .val (.long q2), .second] [])) _
        refine XS.lloadN X0.here hx rfl (hb hby d11_6) rfl ?_
        show Steps p.tables e below (s₁.setTop (mkF m 7 #[.val (.long q1), .second, .val (.long q2), .second] [(.long q1)])) _
        refine XS.goto X0.here hx rfl (pc0 := 7) (pc' := 11) rfl (hb hby d11_7) (by decide) (by decide) ?_
        exact k)
    obtain ⟨fs, hr, hrun, hended, hW, hsame⟩ := X0.leave (v := some (.long q1)) (fun h => by rw [Bd.returns] at h; cases h) (BodyLoose.notSynchronized Bd)
    refine ⟨_, _, ac3 _ ?_, hrun, hended, _, _, rfl, ?_, ⟨_, rfl⟩, hW, hsame.mono (by decide) (by decide)⟩
    · show Steps p.tables e below (s₁.setTop (mkF m 11 #[.val (.long q1), .second, .val (.long q2), .second] [(.long q1)])) _
      exact retOut X0 hx Bd.returns rfl (Or.inr (Or.inl ⟨rfl, rfl, _, rfl⟩)) (hb hby d11_11) hr
    · show Q11 Z q1 q2 h0 n0 _ s₁.heap _
      rw [e0]
      exact ⟨(congrArg (fun z => some (Value.long z)) (own_minL_f hm)).symm, N0, rfl⟩
theorem ef_rm12 (m : MethodId) (x0 : Int64) (x1 : Int64) : entryFrame m #[(.long x0), (.long x1)] 4 = mkF m 0 #[.val (.long x0), .second, .val (.long x1), .second] [] := by first | (simp [entryFrame, mkF, argsToLocals, Value.category]; done) | rfl
def Q12 (Z : State) (q1 : Int64) (q2 : Int64) (h0 : Heap) (n0 : Nat) (v : Option Value) (h : Heap) (L : List Loc) : Prop := v = some (.long (own_maxL q1 q2)) ∧ Fr n0 L ∧ h = h0
set_option maxRecDepth 65536 in
set_option maxHeartbeats 40000000 in
theorem rm12 (l : Launch) (Z : State) (a0 : Array Value) (hw : ∀ d ∈ tables_1, d.before a0 Z = true) (ws : List Jvm.Cond) (q1 : Int64) (q2 : Int64) (h0 : Heap) (n0 : Nat) (Z0 : n0 ≤ h0.size) :
    MetFree l (⟨"java/lang/Math", "max", "(JJ)J"⟩ : MethodName) (head1 (Jvm.Cond.code (⟨"java/lang/Math", "max", "(JJ)J"⟩ : MethodName) jdk_29_method_66_code 4 (some .long) :: ws) ({ frames := 0, cells := 0, slots := 0, locals := 0 } : Room)) (fun a U => a = #[(.long q1), (.long q2)] ∧ Z.Warmed39 U.vm ∧ U.heap = h0) (fun _ _ _ _ _ => True) (fun _ U o U' => ∃ v L, o = .returned v ∧ Q12 Z q1 q2 h0 n0 v U'.heap L ∧ FrameEnd U o U' L ({ frames := 0, cells := 0, slots := 0, locals := 0 } : Room).cells ({ frames := 0, cells := 0, slots := 0, locals := 0 } : Room).slots) := by
  refine MetFree.of_bodySF (Jvm.Free.JP.mathPlain rfl (by decide +kernel)) hisR ?_
  intro p e s m args below meth c s₁ Bd hml0 hP hK
  obtain ⟨rfl, hZ, hh⟩ := hP
  have hx := Bd.exec
  have hby := Bd.bytes
  have hml : c.maxLocals = 4 := hml0
  have hown : s.vm.findClass "java/lang/Math" = some m.cls := findClass_of_methodNamed Bd.named
  have hnm := (name_of_methodNamed Bd.named Bd.method).1
  have X0 : Stand p l e ({ frames := 0, cells := 0, slots := 0, locals := 0 } : Room) s m #[(.long q1), (.long q2)] below meth c s₁ [] 0 0 := Stand.of_body Bd
  have e0 : s₁.heap = h0 := by rw [← hh, Bd.state]; rfl
  have N0 := Fr.nil n0
  have a0s : ∀ t, Steps p.tables e below (s₁.setTop (mkF m 0 #[.val (.long q1), .second, .val (.long q2), .second] [])) t → Steps p.tables e below (s₁.setTop (entryFrame m #[(.long q1), (.long q2)] 4)) t := fun t k => castTop (ef_rm12 m q1 q2) k
  have ac1 : ∀ t, Steps p.tables e below (s₁.setTop (mkF m 3 #[.val (.long q1), .second, .val (.long q2), .second] [(.int (lcmpW q1 q2))])) t → Steps p.tables e below (s₁.setTop (entryFrame m #[(.long q1), (.long q2)] 4)) t := fun t k => a0s t (by
      show Steps p.tables e below (s₁.setTop (mkF m 0 #[.val (.long q1), .second, .val (.long q2), .second] [])) _
      refine XS.lloadN X0.here hx rfl (hb hby d12_0) rfl ?_
      show Steps p.tables e below (s₁.setTop (mkF m 1 #[.val (.long q1), .second, .val (.long q2), .second] [(.long q1)])) _
      refine XS.lloadN X0.here hx rfl (hb hby d12_1) rfl ?_
      show Steps p.tables e below (s₁.setTop (mkF m 2 #[.val (.long q1), .second, .val (.long q2), .second] [(.long q2), (.long q1)])) _
      refine XS.lcmp X0.here hx rfl (hb hby d12_2) rfl ?_
      exact k)
  by_cases hm : q1 < q2
  ·
    have ac2 : ∀ t, Steps p.tables e below (s₁.setTop (mkF m 11 #[.val (.long q1), .second, .val (.long q2), .second] [(.long q2)])) t → Steps p.tables e below (s₁.setTop (entryFrame m #[(.long q1), (.long q2)] 4)) t := fun t k => ac1 t (by
        show Steps p.tables e below (s₁.setTop (mkF m 3 #[.val (.long q1), .second, .val (.long q2), .second] [(.int (lcmpW q1 q2))])) _
        refine XS.ifYes X0.here hx rfl (pc0 := 3) (pc' := 10) rfl (hb hby d12_3) rfl ((if0 _ _).trans (tlt ((lw_lt _ _).mpr hm)).1) (by decide) (by decide) ?_
        show Steps p.tables e below (s₁.setTop (mkF m 10 #[.val (.long q1), .second, .val (.long q2), .second] [])) _
        refine XS.lloadN X0.here hx rfl (hb hby d12_10) rfl ?_
        exact k)
    obtain ⟨fs, hr, hrun, hended, hW, hsame⟩ := X0.leave (v := some (.long q2)) (fun h => by rw [Bd.returns] at h; cases h) (BodyLoose.notSynchronized Bd)
    refine ⟨_, _, ac2 _ ?_, hrun, hended, _, _, rfl, ?_, ⟨_, rfl⟩, hW, hsame.mono (by decide) (by decide)⟩
    · show Steps p.tables e below (s₁.setTop (mkF m 11 #[.val (.long q1), .second, .val (.long q2), .second] [(.long q2)])) _
      exact retOut X0 hx Bd.returns rfl (Or.inr (Or.inl ⟨rfl, rfl, _, rfl⟩)) (hb hby d12_11) hr
    · show Q12 Z q1 q2 h0 n0 _ s₁.heap _
      rw [e0]
      exact ⟨(congrArg (fun z => some (Value.long z)) (own_maxL_t hm)).symm, N0, rfl⟩
  ·
    have ac3 : ∀ t, Steps p.tables e below (s₁.setTop (mkF m 11 #[.val (.long q1), .second, .val (.long q2), .second] [(.long q1)])) t → Steps p.tables e below (s₁.setTop (entryFrame m #[(.long q1), (.long q2)] 4)) t := fun t k => ac1 t (by
        show Steps p.tables e below (s₁.setTop (mkF m 3 #[.val (.long q1), .second, .val (.long q2), .second] [(.int (lcmpW q1 q2))])) _
        refine XS.ifNo X0.here hx rfl (hb hby d12_3) rfl ((if0 _ _).trans (flt (mt (lw_lt _ _).mp hm)).1) ?_
        show Steps p.tables e below (s₁.setTop (mkF m 6 #[.val (.long q1), .second, .val (.long q2), .second] [])) _
        refine XS.lloadN X0.here hx rfl (hb hby d12_6) rfl ?_
        show Steps p.tables e below (s₁.setTop (mkF m 7 #[.val (.long q1), .second, .val (.long q2), .second] [(.long q1)])) _
        refine XS.goto X0.here hx rfl (pc0 := 7) (pc' := 11) rfl (hb hby d12_7) (by decide) (by decide) ?_
        exact k)
    obtain ⟨fs, hr, hrun, hended, hW, hsame⟩ := X0.leave (v := some (.long q1)) (fun h => by rw [Bd.returns] at h; cases h) (BodyLoose.notSynchronized Bd)
    refine ⟨_, _, ac3 _ ?_, hrun, hended, _, _, rfl, ?_, ⟨_, rfl⟩, hW, hsame.mono (by decide) (by decide)⟩
    · show Steps p.tables e below (s₁.setTop (mkF m 11 #[.val (.long q1), .second, .val (.long q2), .second] [(.long q1)])) _
      exact retOut X0 hx Bd.returns rfl (Or.inr (Or.inl ⟨rfl, rfl, _, rfl⟩)) (hb hby d12_11) hr
    · show Q12 Z q1 q2 h0 n0 _ s₁.heap _
      rw [e0]
      exact ⟨(congrArg (fun z => some (Value.long z)) (own_maxL_f hm)).symm, N0, rfl⟩
theorem ef_rm14 (m : MethodId) (x0 : Int32) (x1 : Int32) : entryFrame m #[(.int x0), (.int x1)] 2 = mkF m 0 #[.val (.int x0), .val (.int x1)] [] := by first | (simp [entryFrame, mkF, argsToLocals, Value.category]; done) | rfl
def Q14 (Z : State) (p1 : Int32) (p2 : Int32) (h0 : Heap) (n0 : Nat) (v : Option Value) (h : Heap) (L : List Loc) : Prop := v = some (.int (own_min p1 p2)) ∧ Fr n0 L ∧ h = h0
set_option maxRecDepth 65536 in
set_option maxHeartbeats 40000000 in
theorem rm14 (l : Launch) (Z : State) (a0 : Array Value) (hw : ∀ d ∈ tables_1, d.before a0 Z = true) (ws : List Jvm.Cond) (p1 : Int32) (p2 : Int32) (h0 : Heap) (n0 : Nat) (Z0 : n0 ≤ h0.size) :
    MetFree l (⟨"java/lang/Math", "min", "(II)I"⟩ : MethodName) (head1 (Jvm.Cond.code (⟨"java/lang/Math", "min", "(II)I"⟩ : MethodName) jdk_29_method_69_code 2 (some .int) :: ws) ({ frames := 0, cells := 0, slots := 0, locals := 0 } : Room)) (fun a U => a = #[(.int p1), (.int p2)] ∧ Z.Warmed39 U.vm ∧ U.heap = h0) (fun _ _ _ _ _ => True) (fun _ U o U' => ∃ v L, o = .returned v ∧ Q14 Z p1 p2 h0 n0 v U'.heap L ∧ FrameEnd U o U' L ({ frames := 0, cells := 0, slots := 0, locals := 0 } : Room).cells ({ frames := 0, cells := 0, slots := 0, locals := 0 } : Room).slots) := by
  refine MetFree.of_bodySF (Jvm.Free.JP.mathPlain rfl (by decide +kernel)) hisR ?_
  intro p e s m args below meth c s₁ Bd hml0 hP hK
  obtain ⟨rfl, hZ, hh⟩ := hP
  have hx := Bd.exec
  have hby := Bd.bytes
  have hml : c.maxLocals = 2 := hml0
  have hown : s.vm.findClass "java/lang/Math" = some m.cls := findClass_of_methodNamed Bd.named
  have hnm := (name_of_methodNamed Bd.named Bd.method).1
  have X0 : Stand p l e ({ frames := 0, cells := 0, slots := 0, locals := 0 } : Room) s m #[(.int p1), (.int p2)] below meth c s₁ [] 0 0 := Stand.of_body Bd
  have e0 : s₁.heap = h0 := by rw [← hh, Bd.state]; rfl
  have N0 := Fr.nil n0
  have a0s : ∀ t, Steps p.tables e below (s₁.setTop (mkF m 0 #[.val (.int p1), .val (.int p2)] [])) t → Steps p.tables e below (s₁.setTop (entryFrame m #[(.int p1), (.int p2)] 2)) t := fun t k => castTop (ef_rm14 m p1 p2) k
  have ac1 : ∀ t, Steps p.tables e below (s₁.setTop (mkF m 2 #[.val (.int p1), .val (.int p2)] [(.int p2), (.int p1)])) t → Steps p.tables e below (s₁.setTop (entryFrame m #[(.int p1), (.int p2)] 2)) t := fun t k => a0s t (by
      show Steps p.tables e below (s₁.setTop (mkF m 0 #[.val (.int p1), .val (.int p2)] [])) _
      refine XS.iloadN X0.here hx rfl (hb hby d14_0) rfl ?_
      show Steps p.tables e below (s₁.setTop (mkF m 1 #[.val (.int p1), .val (.int p2)] [(.int p1)])) _
      refine XS.iloadN X0.here hx rfl (hb hby d14_1) rfl ?_
      exact k)
  by_cases hm : p2 < p1
  ·
    have ac2 : ∀ t, Steps p.tables e below (s₁.setTop (mkF m 10 #[.val (.int p1), .val (.int p2)] [(.int p2)])) t → Steps p.tables e below (s₁.setTop (entryFrame m #[(.int p1), (.int p2)] 2)) t := fun t k => ac1 t (by
        show Steps p.tables e below (s₁.setTop (mkF m 2 #[.val (.int p1), .val (.int p2)] [(.int p2), (.int p1)])) _
        refine XS.icmpYes X0.here hx rfl (pc0 := 2) (pc' := 9) rfl (hb hby d14_2) rfl (tlt hm).2.2.1 (by decide) (by decide) ?_
        show Steps p.tables e below (s₁.setTop (mkF m 9 #[.val (.int p1), .val (.int p2)] [])) _
        refine XS.iloadN X0.here hx rfl (hb hby d14_9) rfl ?_
        exact k)
    obtain ⟨fs, hr, hrun, hended, hW, hsame⟩ := X0.leave (v := some (.int p2)) (fun h => by rw [Bd.returns] at h; cases h) (BodyLoose.notSynchronized Bd)
    refine ⟨_, _, ac2 _ ?_, hrun, hended, _, _, rfl, ?_, ⟨_, rfl⟩, hW, hsame.mono (by decide) (by decide)⟩
    · show Steps p.tables e below (s₁.setTop (mkF m 10 #[.val (.int p1), .val (.int p2)] [(.int p2)])) _
      exact retI X0 hx Bd.returns (hb hby d14_10) hr
    · show Q14 Z p1 p2 h0 n0 _ s₁.heap _
      rw [e0]
      exact ⟨(congrArg (fun z => some (Value.int z)) (own_min_t hm)).symm, N0, rfl⟩
  ·
    have ac3 : ∀ t, Steps p.tables e below (s₁.setTop (mkF m 10 #[.val (.int p1), .val (.int p2)] [(.int p1)])) t → Steps p.tables e below (s₁.setTop (entryFrame m #[(.int p1), (.int p2)] 2)) t := fun t k => ac1 t (by
        show Steps p.tables e below (s₁.setTop (mkF m 2 #[.val (.int p1), .val (.int p2)] [(.int p2), (.int p1)])) _
        refine XS.icmpNo X0.here hx rfl (hb hby d14_2) rfl (flt hm).2.2.1 ?_
        show Steps p.tables e below (s₁.setTop (mkF m 5 #[.val (.int p1), .val (.int p2)] [])) _
        refine XS.iloadN X0.here hx rfl (hb hby d14_5) rfl ?_
        show Steps p.tables e below (s₁.setTop (mkF m 6 #[.val (.int p1), .val (.int p2)] [(.int p1)])) _
        refine XS.goto X0.here hx rfl (pc0 := 6) (pc' := 10) rfl (hb hby d14_6) (by decide) (by decide) ?_
        exact k)
    obtain ⟨fs, hr, hrun, hended, hW, hsame⟩ := X0.leave (v := some (.int p1)) (fun h => by rw [Bd.returns] at h; cases h) (BodyLoose.notSynchronized Bd)
    refine ⟨_, _, ac3 _ ?_, hrun, hended, _, _, rfl, ?_, ⟨_, rfl⟩, hW, hsame.mono (by decide) (by decide)⟩
    · show Steps p.tables e below (s₁.setTop (mkF m 10 #[.val (.int p1), .val (.int p2)] [(.int p1)])) _
      exact retI X0 hx Bd.returns (hb hby d14_10) hr
    · show Q14 Z p1 p2 h0 n0 _ s₁.heap _
      rw [e0]
      exact ⟨(congrArg (fun z => some (Value.int z)) (own_min_f hm)).symm, N0, rfl⟩
theorem ef_rm13 (m : MethodId) (x0 : Addr) (x1 : Int32) : entryFrame m #[(.ref x0), (.int x1)] 3 = mkF m 0 #[.val (.ref x0), .val (.int x1), .unset] [] := by first | (simp [entryFrame, mkF, argsToLocals, Value.category]; done) | rfl
def Q13 (Z : State) (a1 : Addr) (p2 : Int32) (n1 : Nat) (n2 : Nat) (f : Nat → Value) (h0 : Heap) (n0 : Nat) (v : Option Value) (h : Heap) (L : List Loc) : Prop := ∃ r : Addr, v = some (.ref r) ∧ Fr n0 L ∧ Keep h0 h [] ∧ h0.size ≤ r ∧ own_Ar Z h r .byte n2 (fun i => if i < n1 then f i else (.int (0 : Int32)))
set_option maxRecDepth 65536 in
set_option maxHeartbeats 40000000 in
theorem rm13 (l : Launch) (Z : State) (a0 : Array Value) (hw : ∀ d ∈ tables_1, d.before a0 Z = true) (ws : List Jvm.Cond) (a1 : Addr) (p2 : Int32) (n1 : Nat) (n2 : Nat) (f : Nat → Value) (h0 : Heap) (n0 : Nat) (Z0 : n0 ≤ h0.size) (V1 : own_Ar Z h0 a1 .byte n1 f) (hp2 : p2.toInt = n2) (h12 : n1 < n2) (hcap : n2 ≤ 65535) :
    MetFree l (⟨"java/util/Arrays", "copyOf", "([BI)[B"⟩ : MethodName) (head1 (Jvm.Cond.code (⟨"java/util/Arrays", "copyOf", "([BI)[B"⟩ : MethodName) jdk_65_method_121_code 3 (some (.array .byte)) :: ws) ({ frames := 1, cells := 1, slots := 65535, locals := 18 } : Room)) (fun a U => a = #[(.ref a1), (.int p2)] ∧ Z.Warmed39 U.vm ∧ U.heap = h0) (fun _ _ _ _ _ => True) (fun _ U o U' => ∃ v L, o = .returned v ∧ Q13 Z a1 p2 n1 n2 f h0 n0 v U'.heap L ∧ FrameEnd U o U' L ({ frames := 1, cells := 1, slots := 65535, locals := 18 } : Room).cells ({ frames := 1, cells := 1, slots := 65535, locals := 18 } : Room).slots) := by
  refine MetFree.of_bodySF (plainFor_of_name pn_13) hisR ?_
  intro p e s m args below meth c s₁ Bd hml0 hP hK
  obtain ⟨rfl, hZ, hh⟩ := hP
  have hx := Bd.exec
  have hby := Bd.bytes
  have hml : c.maxLocals = 3 := hml0
  have hown : s.vm.findClass "java/util/Arrays" = some m.cls := findClass_of_methodNamed Bd.named
  have hnm := (name_of_methodNamed Bd.named Bd.method).1
  have X0 : Stand p l e ({ frames := 1, cells := 1, slots := 65535, locals := 18 } : Room) s m #[(.ref a1), (.int p2)] below meth c s₁ [] 0 0 := Stand.of_body Bd
  have e0 : s₁.heap = h0 := by rw [← hh, Bd.state]; rfl
  have N0 := Fr.nil n0
  have a0s : ∀ t, Steps p.tables e below (s₁.setTop (mkF m 0 #[.val (.ref a1), .val (.int p2), .unset] [])) t → Steps p.tables e below (s₁.setTop (entryFrame m #[(.ref a1), (.int p2)] 3)) t := fun t k => castTop (ef_rm13 m a1 p2) k
  have ac1 : ∀ t, Steps p.tables e below (s₁.setTop (mkF m 2 #[.val (.ref a1), .val (.int p2), .unset] [(.ref a1), (.int p2)])) t → Steps p.tables e below (s₁.setTop (entryFrame m #[(.ref a1), (.int p2)] 3)) t := fun t k => a0s t (by
      show Steps p.tables e below (s₁.setTop (mkF m 0 #[.val (.ref a1), .val (.int p2), .unset] [])) _
      refine XS.iloadN X0.here hx rfl (hb hby d13_0) rfl ?_
      show Steps p.tables e below (s₁.setTop (mkF m 1 #[.val (.ref a1), .val (.int p2), .unset] [(.int p2)])) _
      refine XS.aloadN X0.here hx rfl (hb hby d13_1) rfl rfl ?_
      exact k)
  obtain ⟨cl2, Ac2, hl2, hb2⟩ := V1.len
  have hn1 := own_ofNat hb2
  have ac3 : ∀ t, Steps p.tables e below (s₁.setTop (mkF m 15 #[.val (.ref a1), .val (.int p2), .unset] [(.int p2)])) t → Steps p.tables e below (s₁.setTop (entryFrame m #[(.ref a1), (.int p2)] 3)) t := fun t k => ac1 t (by
      show Steps p.tables e below (s₁.setTop (mkF m 2 #[.val (.ref a1), .val (.int p2), .unset] [(.ref a1), (.int p2)])) _
      refine X0.arraylength hx (by rw [e0]; exact Ac2.1) (State.isArrayOf_alike hZ.alike Ac2.2.1) (g := (mkF m 2 #[.val (.ref a1), .val (.int p2), .unset] [(.ref a1), (.int p2)])) rfl rfl (hb hby d13_2) _ ?_
      rw [hl2]
      show Steps p.tables e below (s₁.setTop (mkF m 3 #[.val (.ref a1), .val (.int p2), .unset] [(.int (Int32.ofNat n1)), (.int p2)])) _
      refine XS.icmpYes X0.here hx rfl (pc0 := 3) (pc' := 14) rfl (hb hby d13_3) rfl (feq (own_ne_of (by omega))).2 (by decide) (by decide) ?_
      show Steps p.tables e below (s₁.setTop (mkF m 14 #[.val (.ref a1), .val (.int p2), .unset] [])) _
      refine XS.iloadN X0.here hx rfl (hb hby d13_14) rfl ?_
      exact k)
  obtain ⟨T4, h4, k4, X4, e4, E4, A4, st4⟩ := newP X0 hx hZ (hw _ (List.mem_of_getElem? (i := 20) rfl)) e0 (g := (mkF m 15 #[.val (.ref a1), .val (.int p2), .unset] [(.int p2)])) rfl (hb hby d13_15) rfl (own_lt0 (by omega)) (cap := 65535) (by have := own_nat (j := p2) (by omega); omega) (by decide) (by decide) (by decide)
  obtain ⟨b4, g4⟩ : ∃ z, z = h0.size := ⟨_, rfl⟩
  rw [← g4] at A4 st4
  have g_b4 : n0 ≤ b4 := Nat.le_trans Z0 (Nat.le_of_eq g4.symm)
  have sz_b4 : h0.size ≤ b4 := Nat.le_trans (Keep.refl h0 []).1 (Nat.le_of_eq g4.symm)
  have ne_a1_b4 : a1 ≠ b4 := Nat.ne_of_lt (Nat.lt_of_lt_of_le V1.lt (Nat.le_of_eq g4.symm))
  have Vf5 := V1.ext E4
  have Z4 : n0 ≤ h4.size := Nat.le_trans Z0 E4.1
  have Kp6 : Keep h0 h4 [] := (Keep.refl h0 []).ext E4
  have V4 : own_Ar Z h4 b4 .byte n2 (fun _ => (.int (0 : Int32))) := own_Ar.new A4 hp2
  have ac7 : ∀ t, Steps p.tables e below (T4.setTop (mkF m 17 #[.val (.ref a1), .val (.int p2), .unset] [(.ref b4)])) t → Steps p.tables e below (s₁.setTop (entryFrame m #[(.ref a1), (.int p2)] 3)) t := fun t k => ac3 t (st4 t k)
  have ac8 : ∀ t, Steps p.tables e below (T4.setTop (mkF m 23 #[.val (.ref a1), .val (.int p2), .val (.ref b4)] [(.ref a1), (.int (0 : Int32)), (.ref b4), (.int (0 : Int32)), (.ref a1)])) t → Steps p.tables e below (s₁.setTop (entryFrame m #[(.ref a1), (.int p2)] 3)) t := fun t k => ac7 t (by
      show Steps p.tables e below (T4.setTop (mkF m 17 #[.val (.ref a1), .val (.int p2), .unset] [(.ref b4)])) _
      refine XS.astoreN X4.here hx rfl (hb hby d13_17) rfl rfl (l' := #[.val (.ref a1), .val (.int p2), .val (.ref b4)]) rfl ?_
      show Steps p.tables e below (T4.setTop (mkF m 18 #[.val (.ref a1), .val (.int p2), .val (.ref b4)] [])) _
      refine XS.aloadN X4.here hx rfl (hb hby d13_18) rfl rfl ?_
      show Steps p.tables e below (T4.setTop (mkF m 19 #[.val (.ref a1), .val (.int p2), .val (.ref b4)] [(.ref a1)])) _
      refine XS.iconst X4.here hx rfl (hb hby d13_19) ?_
      show Steps p.tables e below (T4.setTop (mkF m 20 #[.val (.ref a1), .val (.int p2), .val (.ref b4)] [(.int (0 : Int32)), (.ref a1)])) _
      refine XS.aloadN X4.here hx rfl (hb hby d13_20) rfl rfl ?_
      show Steps p.tables e below (T4.setTop (mkF m 21 #[.val (.ref a1), .val (.int p2), .val (.ref b4)] [(.ref b4), (.int (0 : Int32)), (.ref a1)])) _
      refine XS.iconst X4.here hx rfl (hb hby d13_21) ?_
      show Steps p.tables e below (T4.setTop (mkF m 22 #[.val (.ref a1), .val (.int p2), .val (.ref b4)] [(.int (0 : Int32)), (.ref b4), (.int (0 : Int32)), (.ref a1)])) _
      refine XS.aloadN X4.here hx rfl (hb hby d13_22) rfl rfl ?_
      exact k)
  obtain ⟨cl9, Ac9, hl9, hb9⟩ := Vf5.len
  have ac10 : ∀ t, Steps p.tables e below (T4.setTop (mkF m 25 #[.val (.ref a1), .val (.int p2), .val (.ref b4)] [(.int p2), (.int (Int32.ofNat n1)), (.int (0 : Int32)), (.ref b4), (.int (0 : Int32)), (.ref a1)])) t → Steps p.tables e below (s₁.setTop (entryFrame m #[(.ref a1), (.int p2)] 3)) t := fun t k => ac8 t (by
      show Steps p.tables e below (T4.setTop (mkF m 23 #[.val (.ref a1), .val (.int p2), .val (.ref b4)] [(.ref a1), (.int (0 : Int32)), (.ref b4), (.int (0 : Int32)), (.ref a1)])) _
      refine X4.arraylength hx (by rw [e4]; exact Ac9.1) (State.isArrayOf_alike hZ.alike Ac9.2.1) (g := (mkF m 23 #[.val (.ref a1), .val (.int p2), .val (.ref b4)] [(.ref a1), (.int (0 : Int32)), (.ref b4), (.int (0 : Int32)), (.ref a1)])) rfl rfl (hb hby d13_23) _ ?_
      rw [hl9]
      show Steps p.tables e below (T4.setTop (mkF m 24 #[.val (.ref a1), .val (.int p2), .val (.ref b4)] [(.int (Int32.ofNat n1)), (.int (0 : Int32)), (.ref b4), (.int (0 : Int32)), (.ref a1)])) _
      refine XS.iloadN X4.here hx rfl (hb hby d13_24) rfl ?_
      exact k)
  obtain ⟨_, _, ⟨T11, L11, k11, n11⟩, -, X11, ⟨Lc11, hQ11, l11, y11, z11⟩, st11⟩ := Jvm.LawKit.callS X4 hx (y := (⟨"java/lang/Math", "min", "(II)I"⟩ : MethodName)) hown (mvT hZ (hw _ (List.mem_of_getElem? (i := 79) rfl))) (mvT hZ (hw _ (List.mem_of_getElem? (i := 80) rfl))) (mvT hZ (hw _ (List.mem_of_getElem? (i := 70) rfl))) (mvT hZ (hw _ (List.mem_of_getElem? (i := 81) rfl))) (by decide) (backOf (W := 4) (rm14 l Z a0 hw [] (Int32.ofNat n1) p2  h4 n0 Z4 ) hZ (hw _ (List.mem_of_getElem? (i := 81) rfl)) (hw _ (List.mem_of_getElem? (i := 70) rfl)) (by decide) (by decide)) (g := (mkF m 25 #[.val (.ref a1), .val (.int p2), .val (.ref b4)] [(.int p2), (.int (Int32.ofNat n1)), (.int (0 : Int32)), (.ref b4), (.int (0 : Int32)), (.ref a1)])) rfl (by rw [hml]; rfl) (argsL := [(.int (Int32.ofNat n1)), (.int p2)]) (rest := [(.int (0 : Int32)), (.ref b4), (.int (0 : Int32)), (.ref a1)]) (lenOf pd_10 rfl) rfl (by show 2 * 0 + _ ≤ _; exact Nat.le_of_eq rfl) (hb hby d13_25) (fun _ _ => ⟨rfl, e4, (by decide : 1 + 0 ≤ _), (by decide : 65535 + 0 ≤ _)⟩)
  dsimp only [Pt.U, Pt.locs, Pt.cells, Pt.slots] at X11 l11 y11 z11 st11 hQ11
  subst l11 y11 z11
  obtain ⟨rfl, N11q, Qe11⟩ := hQ11
  have N11 := Fr.app N0 N11q
  have ac12 : ∀ t, Steps p.tables e below (T11.setTop (mkF m 28 #[.val (.ref a1), .val (.int p2), .val (.ref b4)] [(.int (own_min (Int32.ofNat n1) p2)), (.int (0 : Int32)), (.ref b4), (.int (0 : Int32)), (.ref a1)])) t → Steps p.tables e below (s₁.setTop (entryFrame m #[(.ref a1), (.int p2)] 3)) t := fun t k => ac10 t (st11 t k)
  have hmin13 : (own_min (Int32.ofNat n1) p2).toInt = n1 := by rw [own_min_f (own_nlt_of (by omega))]; exact hn1
  obtain ⟨T13, h13, Lc13, X13, e13, N13, K13q, V13, st13⟩ := own_cp X11 hx hZ hown (hw _ (List.mem_of_getElem? (i := 82) rfl)) (hw _ (List.mem_of_getElem? (i := 85) rfl)) (hw _ (List.mem_of_getElem? (i := 83) rfl)) (hw _ (List.mem_of_getElem? (i := 84) rfl)) Qe11 Vf5 V4 rfl (k := n1) (Nat.le_refl _) (Nat.le_of_lt h12) hmin13 N11 g_b4 (g := (mkF m 28 #[.val (.ref a1), .val (.int p2), .val (.ref b4)] [(.int (own_min (Int32.ofNat n1) p2)), (.int (0 : Int32)), (.ref b4), (.int (0 : Int32)), (.ref a1)])) rfl (by rw [hml]; rfl) rfl (hb hby d13_28) (by decide) (W := 0) (by show 2 * 0 + _ ≤ _; exact Nat.le_of_eq rfl) (by decide)
  have Vf14 := Vf5.keep K13q (ninS ne_a1_b4 nin0)
  have Z13 : n0 ≤ h13.size := Nat.le_trans Z4 K13q.1
  have Kp15 : Keep h0 h13 [] := Kp6.trans K13q (allS (Or.inr sz_b4) all0)
  have ac16 : ∀ t, Steps p.tables e below (T13.setTop (mkF m 31 #[.val (.ref a1), .val (.int p2), .val (.ref b4)] [])) t → Steps p.tables e below (s₁.setTop (entryFrame m #[(.ref a1), (.int p2)] 3)) t := fun t k => ac12 t (st13 t k)
  have ac17 : ∀ t, Steps p.tables e below (T13.setTop (mkF m 32 #[.val (.ref a1), .val (.int p2), .val (.ref b4)] [(.ref b4)])) t → Steps p.tables e below (s₁.setTop (entryFrame m #[(.ref a1), (.int p2)] 3)) t := fun t k => ac16 t (by
      show Steps p.tables e below (T13.setTop (mkF m 31 #[.val (.ref a1), .val (.int p2), .val (.ref b4)] [])) _
      refine XS.aloadN X13.here hx rfl (hb hby d13_31) rfl rfl ?_
      exact k)
  obtain ⟨fs, hr, hrun, hended, hW, hsame⟩ := X13.leave (v := some (.ref b4)) (fun h => by rw [Bd.returns] at h; cases h) (BodyLoose.notSynchronized Bd)
  refine ⟨_, _, ac17 _ ?_, hrun, hended, _, _, rfl, ?_, ⟨_, rfl⟩, hW, hsame.mono (by decide) (by decide)⟩
  · show Steps p.tables e below (T13.setTop (mkF m 32 #[.val (.ref a1), .val (.int p2), .val (.ref b4)] [(.ref b4)])) _
    exact retOut X13 hx Bd.returns rfl (Or.inr (Or.inr (Or.inr (Or.inr ⟨rfl, rfl, rfl⟩)))) (hb hby d13_32) hr
  · show Q13 Z a1 p2 n1 n2 f h0 n0 _ T13.heap _
    rw [e13]
    exact ⟨b4, rfl, N13, Kp15, sz_b4, V13⟩
theorem ef_rm1 (m : MethodId) (x0 : Addr) : entryFrame m #[(.ref x0)] 1 = mkF m 0 #[.val (.ref x0)] [] := by first | (simp [entryFrame, mkF, argsToLocals, Value.category]; done) | rfl
def Q1 (Z : State) (a1 : Addr) (h0 : Heap) (n0 : Nat) (v : Option Value) (h : Heap) (L : List Loc) : Prop := v = none ∧ Fr n0 L ∧ Keep h0 h [a1] ∧ ∃ (b1 : Addr) (b2 : Addr) (b3 : Addr) (b4 : Addr) (b5 : Addr) (bB : Addr), ∃ (f1 : Nat → Value) (f2 : Nat → Value) (f3 : Nat → Value) (f4 : Nat → Value) (f5 : Nat → Value) (fB : Nat → Value), own_T Z h n0 a1 0 0 b1 b2 b3 b4 b5 bB f1 f2 f3 f4 f5 256 fB
set_option maxRecDepth 65536 in
set_option maxHeartbeats 40000000 in
theorem rm1 (l : Launch) (Z : State) (a0 : Array Value) (hw : ∀ d ∈ tables_1, d.before a0 Z = true) (ws : List Jvm.Cond) (a1 : Addr) (h0 : Heap) (n0 : Nat) (Z0 : n0 ≤ h0.size) (E1 : Exa Z h0 a1 "com/example/termwright/termwright/TokenList") (g_a1 : n0 ≤ a1) (F0 : Fld Z h0 a1 "com/example/termwright/termwright/TokenList" "size" "I" (.int 0)) (F1 : Fld Z h0 a1 "com/example/termwright/termwright/TokenList" "termBytesUsed" "I" (.int 0)) (F2 : Fld Z h0 a1 "com/example/termwright/termwright/TokenList" "starts" "[I" .null) (F3 : Fld Z h0 a1 "com/example/termwright/termwright/TokenList" "ends" "[I" .null) (F4 : Fld Z h0 a1 "com/example/termwright/termwright/TokenList" "termStarts" "[I" .null) (F5 : Fld Z h0 a1 "com/example/termwright/termwright/TokenList" "termEnds" "[I" .null) (F6 : Fld Z h0 a1 "com/example/termwright/termwright/TokenList" "termChars" "[I" .null) (F7 : Fld Z h0 a1 "com/example/termwright/termwright/TokenList" "termBytes" "[B" .null) :
    MetFree l (⟨"com/example/termwright/termwright/TokenList", "<init>", "()V"⟩ : MethodName) (head1 (Jvm.Cond.code (⟨"com/example/termwright/termwright/TokenList", "<init>", "()V"⟩ : MethodName) prog_224_method_1_code 1 none :: ws) ({ frames := 1, cells := 6, slots := 336, locals := 12 } : Room)) (fun a U => a = #[(.ref a1)] ∧ Z.Warmed39 U.vm ∧ U.heap = h0) (fun _ _ _ _ _ => True) (fun _ U o U' => ∃ v L, o = .returned v ∧ Q1 Z a1 h0 n0 v U'.heap L ∧ FrameEnd U o U' L ({ frames := 1, cells := 6, slots := 336, locals := 12 } : Room).cells ({ frames := 1, cells := 6, slots := 336, locals := 12 } : Room).slots) := by
  refine MetFree.of_bodySF (plainFor_of_name pn_1) hisR ?_
  intro p e s m args below meth c s₁ Bd hml0 hP hK
  obtain ⟨rfl, hZ, hh⟩ := hP
  have hx := Bd.exec
  have hby := Bd.bytes
  have hml : c.maxLocals = 1 := hml0
  have hown : s.vm.findClass "com/example/termwright/termwright/TokenList" = some m.cls := findClass_of_methodNamed Bd.named
  have hnm := (name_of_methodNamed Bd.named Bd.method).1
  have X0 : Stand p l e ({ frames := 1, cells := 6, slots := 336, locals := 12 } : Room) s m #[(.ref a1)] below meth c s₁ [] 0 0 := Stand.of_body Bd
  have e0 : s₁.heap = h0 := by rw [← hh, Bd.state]; rfl
  have N0 := Fr.nil n0
  have a0s : ∀ t, Steps p.tables e below (s₁.setTop (mkF m 0 #[.val (.ref a1)] [])) t → Steps p.tables e below (s₁.setTop (entryFrame m #[(.ref a1)] 1)) t := fun t k => castTop (ef_rm1 m a1) k
  have ac1 : ∀ t, Steps p.tables e below (s₁.setTop (mkF m 1 #[.val (.ref a1)] [(.ref a1)])) t → Steps p.tables e below (s₁.setTop (entryFrame m #[(.ref a1)] 1)) t := fun t k => a0s t (by
      show Steps p.tables e below (s₁.setTop (mkF m 0 #[.val (.ref a1)] [])) _
      refine XS.aloadN X0.here hx rfl (hb hby d1_0) rfl rfl ?_
      exact k)
  obtain ⟨T2, X2, e2, st2⟩ := initO X0 hx hZ hown (hw _ (List.mem_of_getElem? (i := 6) rfl)) (hw _ (List.mem_of_getElem? (i := 7) rfl)) (hw _ (List.mem_of_getElem? (i := 8) rfl)) e0 (g := (mkF m 1 #[.val (.ref a1)] [(.ref a1)])) rfl (by rw [hml]; rfl) rfl (hb hby d1_1) (by decide) (W := 0) (by show 2 * 0 + _ ≤ _; exact Nat.le_of_eq rfl) (by decide)
  have ac3 : ∀ t, Steps p.tables e below (T2.setTop (mkF m 4 #[.val (.ref a1)] [])) t → Steps p.tables e below (s₁.setTop (entryFrame m #[(.ref a1)] 1)) t := fun t k => ac1 t (st2 t k)
  have ac4 : ∀ t, Steps p.tables e below (T2.setTop (mkF m 7 #[.val (.ref a1)] [(.int (16 : Int32)), (.ref a1)])) t → Steps p.tables e below (s₁.setTop (entryFrame m #[(.ref a1)] 1)) t := fun t k => ac3 t (by
      show Steps p.tables e below (T2.setTop (mkF m 4 #[.val (.ref a1)] [])) _
      refine XS.aloadN X2.here hx rfl (hb hby d1_4) rfl rfl ?_
      show Steps p.tables e below (T2.setTop (mkF m 5 #[.val (.ref a1)] [(.ref a1)])) _
      refine XS.bipush X2.here hx rfl (hb hby d1_5) ?_
      exact k)
  obtain ⟨T5, h5, k5, X5, e5, E5, A5, st5⟩ := newP X2 hx hZ (hw _ (List.mem_of_getElem? (i := 9) rfl)) e2 (g := (mkF m 7 #[.val (.ref a1)] [(.int (16 : Int32)), (.ref a1)])) rfl (hb hby d1_7) rfl (by decide) (cap := 16) (by decide) (by decide) (by decide) (by decide)
  obtain ⟨b5, g5⟩ : ∃ z, z = h0.size := ⟨_, rfl⟩
  rw [← g5] at A5 st5
  have g_b5 : n0 ≤ b5 := Nat.le_trans Z0 (Nat.le_of_eq g5.symm)
  have sz_b5 : h0.size ≤ b5 := Nat.le_trans (Keep.refl h0 [a1]).1 (Nat.le_of_eq g5.symm)
  have ne_a1_b5 : a1 ≠ b5 := Nat.ne_of_lt (Nat.lt_of_lt_of_le E1.lt (Nat.le_of_eq g5.symm))
  have Ef6 := E1.ext E5
  have Ff7 := F0.ext E5
  have Ff8 := F1.ext E5
  have Ff9 := F2.ext E5
  have Ff10 := F3.ext E5
  have Ff11 := F4.ext E5
  have Ff12 := F5.ext E5
  have Ff13 := F6.ext E5
  have Ff14 := F7.ext E5
  have Z5 : n0 ≤ h5.size := Nat.le_trans Z0 E5.1
  have Kp15 : Keep h0 h5 [a1] := (Keep.refl h0 [a1]).ext E5
  have V5 : own_Ar Z h5 b5 .int 16 (fun _ => (.int (0 : Int32))) := own_Ar.new A5 rfl
  have ac16 : ∀ t, Steps p.tables e below (T5.setTop (mkF m 9 #[.val (.ref a1)] [(.ref b5), (.ref a1)])) t → Steps p.tables e below (s₁.setTop (entryFrame m #[(.ref a1)] 1)) t := fun t k => ac4 t (st5 t k)
  obtain ⟨T17, h17, X17, e17, W17, st17⟩ := putF X5 hx hZ hown (host := "") (Or.inl (hw _ (List.mem_of_getElem? (i := 10) rfl))) Via.refl e5 Ff9 Ef6 (Or.inl (hw _ (List.mem_of_getElem? (i := 11) rfl))) (hw _ (List.mem_of_getElem? (i := 1) rfl)) (ty := (.array .int)) (by decide) rfl rfl (g := (mkF m 9 #[.val (.ref a1)] [(.ref b5), (.ref a1)])) rfl rfl (hb hby d1_9)
  have Fw17 := Ff9.same W17
  have Ef18 := Ef6.wr W17
  have Ff19 := Ff7.other W17 (Or.inr (slot_ne (Or.inl (hw _ (List.mem_of_getElem? (i := 34) rfl))) (Or.inl (hw _ (List.mem_of_getElem? (i := 11) rfl))) (by decide) (t := .int) (t' := (.array .int)) (by decide) (by decide)))
  have Ff20 := Ff8.other W17 (Or.inr (slot_ne (Or.inl (hw _ (List.mem_of_getElem? (i := 36) rfl))) (Or.inl (hw _ (List.mem_of_getElem? (i := 11) rfl))) (by decide) (t := .int) (t' := (.array .int)) (by decide) (by decide)))
  have Ff21 := Ff10.other W17 (Or.inr (slot_ne (Or.inl (hw _ (List.mem_of_getElem? (i := 13) rfl))) (Or.inl (hw _ (List.mem_of_getElem? (i := 11) rfl))) (by decide) (t := (.array .int)) (t' := (.array .int)) (by decide) (by decide)))
  have Ff22 := Ff11.other W17 (Or.inr (slot_ne (Or.inl (hw _ (List.mem_of_getElem? (i := 15) rfl))) (Or.inl (hw _ (List.mem_of_getElem? (i := 11) rfl))) (by decide) (t := (.array .int)) (t' := (.array .int)) (by decide) (by decide)))
  have Ff23 := Ff12.other W17 (Or.inr (slot_ne (Or.inl (hw _ (List.mem_of_getElem? (i := 17) rfl))) (Or.inl (hw _ (List.mem_of_getElem? (i := 11) rfl))) (by decide) (t := (.array .int)) (t' := (.array .int)) (by decide) (by decide)))
  have Ff24 := Ff13.other W17 (Or.inr (slot_ne (Or.inl (hw _ (List.mem_of_getElem? (i := 19) rfl))) (Or.inl (hw _ (List.mem_of_getElem? (i := 11) rfl))) (by decide) (t := (.array .int)) (t' := (.array .int)) (by decide) (by decide)))
  have Ff25 := Ff14.other W17 (Or.inr (slot_ne (Or.inl (hw _ (List.mem_of_getElem? (i := 22) rfl))) (Or.inl (hw _ (List.mem_of_getElem? (i := 11) rfl))) (by decide) (t := (.array .byte)) (t' := (.array .int)) (by decide) (by decide)))
  have Vf26 := V5.other W17 (Ne.symm ne_a1_b5)
  have N17 := Fr.snoc X17 N0 g_a1
  have Z17 : n0 ≤ h17.size := Nat.le_trans Z5 (Keep.of_wr W17).1
  have Kp27 : Keep h0 h17 [a1] := Kp15.wr W17 (Or.inl (List.mem_of_getElem? (i := 0) rfl))
  have ac28 : ∀ t, Steps p.tables e below (T17.setTop (mkF m 12 #[.val (.ref a1)] [])) t → Steps p.tables e below (s₁.setTop (entryFrame m #[(.ref a1)] 1)) t := fun t k => ac16 t (st17 t k)
  have ac29 : ∀ t, Steps p.tables e below (T17.setTop (mkF m 15 #[.val (.ref a1)] [(.int (16 : Int32)), (.ref a1)])) t → Steps p.tables e below (s₁.setTop (entryFrame m #[(.ref a1)] 1)) t := fun t k => ac28 t (by
      show Steps p.tables e below (T17.setTop (mkF m 12 #[.val (.ref a1)] [])) _
      refine XS.aloadN X17.here hx rfl (hb hby d1_12) rfl rfl ?_
      show Steps p.tables e below (T17.setTop (mkF m 13 #[.val (.ref a1)] [(.ref a1)])) _
      refine XS.bipush X17.here hx rfl (hb hby d1_13) ?_
      exact k)
  obtain ⟨T30, h30, k30, X30, e30, E30, A30, st30⟩ := newP X17 hx hZ (hw _ (List.mem_of_getElem? (i := 9) rfl)) e17 (g := (mkF m 15 #[.val (.ref a1)] [(.int (16 : Int32)), (.ref a1)])) rfl (hb hby d1_15) rfl (by decide) (cap := 16) (by decide) (by decide) (by decide) (by decide)
  obtain ⟨b30, g30⟩ : ∃ z, z = h17.size := ⟨_, rfl⟩
  rw [← g30] at A30 st30
  have g_b30 : n0 ≤ b30 := Nat.le_trans Z17 (Nat.le_of_eq g30.symm)
  have sz_b30 : h0.size ≤ b30 := Nat.le_trans Kp27.1 (Nat.le_of_eq g30.symm)
  have ne_a1_b30 : a1 ≠ b30 := Nat.ne_of_lt (Nat.lt_of_lt_of_le Ef18.lt (Nat.le_of_eq g30.symm))
  have ne_b5_b30 : b5 ≠ b30 := Nat.ne_of_lt (Nat.lt_of_lt_of_le Vf26.lt (Nat.le_of_eq g30.symm))
  have Ef31 := Ef18.ext E30
  have Ff32 := Ff19.ext E30
  have Ff33 := Ff20.ext E30
  have Ff34 := Ff21.ext E30
  have Ff35 := Ff22.ext E30
  have Ff36 := Ff23.ext E30
  have Ff37 := Ff24.ext E30
  have Ff38 := Ff25.ext E30
  have Vf39 := Vf26.ext E30
  have Ff40 := Fw17.ext E30
  have Z30 : n0 ≤ h30.size := Nat.le_trans Z17 E30.1
  have Kp41 : Keep h0 h30 [a1] := Kp27.ext E30
  have V30 : own_Ar Z h30 b30 .int 16 (fun _ => (.int (0 : Int32))) := own_Ar.new A30 rfl
  have ac42 : ∀ t, Steps p.tables e below (T30.setTop (mkF m 17 #[.val (.ref a1)] [(.ref b30), (.ref a1)])) t → Steps p.tables e below (s₁.setTop (entryFrame m #[(.ref a1)] 1)) t := fun t k => ac29 t (st30 t k)
  obtain ⟨T43, h43, X43, e43, W43, st43⟩ := putF X30 hx hZ hown (host := "") (Or.inl (hw _ (List.mem_of_getElem? (i := 12) rfl))) Via.refl e30 Ff34 Ef31 (Or.inl (hw _ (List.mem_of_getElem? (i := 13) rfl))) (hw _ (List.mem_of_getElem? (i := 1) rfl)) (ty := (.array .int)) (by decide) rfl rfl (g := (mkF m 17 #[.val (.ref a1)] [(.ref b30), (.ref a1)])) rfl rfl (hb hby d1_17)
  have Fw43 := Ff34.same W43
  have Ef44 := Ef31.wr W43
  have Ff45 := Ff32.other W43 (Or.inr (slot_ne (Or.inl (hw _ (List.mem_of_getElem? (i := 34) rfl))) (Or.inl (hw _ (List.mem_of_getElem? (i := 13) rfl))) (by decide) (t := .int) (t' := (.array .int)) (by decide) (by decide)))
  have Ff46 := Ff33.other W43 (Or.inr (slot_ne (Or.inl (hw _ (List.mem_of_getElem? (i := 36) rfl))) (Or.inl (hw _ (List.mem_of_getElem? (i := 13) rfl))) (by decide) (t := .int) (t' := (.array .int)) (by decide) (by decide)))
  have Ff47 := Ff35.other W43 (Or.inr (slot_ne (Or.inl (hw _ (List.mem_of_getElem? (i := 15) rfl))) (Or.inl (hw _ (List.mem_of_getElem? (i := 13) rfl))) (by decide) (t := (.array .int)) (t' := (.array .int)) (by decide) (by decide)))
  have Ff48 := Ff36.other W43 (Or.inr (slot_ne (Or.inl (hw _ (List.mem_of_getElem? (i := 17) rfl))) (Or.inl (hw _ (List.mem_of_getElem? (i := 13) rfl))) (by decide) (t := (.array .int)) (t' := (.array .int)) (by decide) (by decide)))
  have Ff49 := Ff37.other W43 (Or.inr (slot_ne (Or.inl (hw _ (List.mem_of_getElem? (i := 19) rfl))) (Or.inl (hw _ (List.mem_of_getElem? (i := 13) rfl))) (by decide) (t := (.array .int)) (t' := (.array .int)) (by decide) (by decide)))
  have Ff50 := Ff38.other W43 (Or.inr (slot_ne (Or.inl (hw _ (List.mem_of_getElem? (i := 22) rfl))) (Or.inl (hw _ (List.mem_of_getElem? (i := 13) rfl))) (by decide) (t := (.array .byte)) (t' := (.array .int)) (by decide) (by decide)))
  have Vf51 := Vf39.other W43 (Ne.symm ne_a1_b5)
  have Ff52 := Ff40.other W43 (Or.inr (slot_ne (Or.inl (hw _ (List.mem_of_getElem? (i := 11) rfl))) (Or.inl (hw _ (List.mem_of_getElem? (i := 13) rfl))) (by decide) (t := (.array .int)) (t' := (.array .int)) (by decide) (by decide)))
  have Vf53 := V30.other W43 (Ne.symm ne_a1_b30)
  have N43 := Fr.snoc X43 N17 g_a1
  have Z43 : n0 ≤ h43.size := Nat.le_trans Z30 (Keep.of_wr W43).1
  have Kp54 : Keep h0 h43 [a1] := Kp41.wr W43 (Or.inl (List.mem_of_getElem? (i := 0) rfl))
  have ac55 : ∀ t, Steps p.tables e below (T43.setTop (mkF m 20 #[.val (.ref a1)] [])) t → Steps p.tables e below (s₁.setTop (entryFrame m #[(.ref a1)] 1)) t := fun t k => ac42 t (st43 t k)
  have ac56 : ∀ t, Steps p.tables e below (T43.setTop (mkF m 23 #[.val (.ref a1)] [(.int (16 : Int32)), (.ref a1)])) t → Steps p.tables e below (s₁.setTop (entryFrame m #[(.ref a1)] 1)) t := fun t k => ac55 t (by
      show Steps p.tables e below (T43.setTop (mkF m 20 #[.val (.ref a1)] [])) _
      refine XS.aloadN X43.here hx rfl (hb hby d1_20) rfl rfl ?_
      show Steps p.tables e below (T43.setTop (mkF m 21 #[.val (.ref a1)] [(.ref a1)])) _
      refine XS.bipush X43.here hx rfl (hb hby d1_21) ?_
      exact k)
  obtain ⟨T57, h57, k57, X57, e57, E57, A57, st57⟩ := newP X43 hx hZ (hw _ (List.mem_of_getElem? (i := 9) rfl)) e43 (g := (mkF m 23 #[.val (.ref a1)] [(.int (16 : Int32)), (.ref a1)])) rfl (hb hby d1_23) rfl (by decide) (cap := 16) (by decide) (by decide) (by decide) (by decide)
  obtain ⟨b57, g57⟩ : ∃ z, z = h43.size := ⟨_, rfl⟩
  rw [← g57] at A57 st57
  have g_b57 : n0 ≤ b57 := Nat.le_trans Z43 (Nat.le_of_eq g57.symm)
  have sz_b57 : h0.size ≤ b57 := Nat.le_trans Kp54.1 (Nat.le_of_eq g57.symm)
  have ne_a1_b57 : a1 ≠ b57 := Nat.ne_of_lt (Nat.lt_of_lt_of_le Ef44.lt (Nat.le_of_eq g57.symm))
  have ne_b5_b57 : b5 ≠ b57 := Nat.ne_of_lt (Nat.lt_of_lt_of_le Vf51.lt (Nat.le_of_eq g57.symm))
  have ne_b30_b57 : b30 ≠ b57 := Nat.ne_of_lt (Nat.lt_of_lt_of_le Vf53.lt (Nat.le_of_eq g57.symm))
  have Ef58 := Ef44.ext E57
  have Ff59 := Ff45.ext E57
  have Ff60 := Ff46.ext E57
  have Ff61 := Ff47.ext E57
  have Ff62 := Ff48.ext E57
  have Ff63 := Ff49.ext E57
  have Ff64 := Ff50.ext E57
  have Vf65 := Vf51.ext E57
  have Ff66 := Ff52.ext E57
  have Vf67 := Vf53.ext E57
  have Ff68 := Fw43.ext E57
  have Z57 : n0 ≤ h57.size := Nat.le_trans Z43 E57.1
  have Kp69 : Keep h0 h57 [a1] := Kp54.ext E57
  have V57 : own_Ar Z h57 b57 .int 16 (fun _ => (.int (0 : Int32))) := own_Ar.new A57 rfl
  have ac70 : ∀ t, Steps p.tables e below (T57.setTop (mkF m 25 #[.val (.ref a1)] [(.ref b57), (.ref a1)])) t → Steps p.tables e below (s₁.setTop (entryFrame m #[(.ref a1)] 1)) t := fun t k => ac56 t (st57 t k)
  obtain ⟨T71, h71, X71, e71, W71, st71⟩ := putF X57 hx hZ hown (host := "") (Or.inl (hw _ (List.mem_of_getElem? (i := 14) rfl))) Via.refl e57 Ff61 Ef58 (Or.inl (hw _ (List.mem_of_getElem? (i := 15) rfl))) (hw _ (List.mem_of_getElem? (i := 1) rfl)) (ty := (.array .int)) (by decide) rfl rfl (g := (mkF m 25 #[.val (.ref a1)] [(.ref b57), (.ref a1)])) rfl rfl (hb hby d1_25)
  have Fw71 := Ff61.same W71
  have Ef72 := Ef58.wr W71
  have Ff73 := Ff59.other W71 (Or.inr (slot_ne (Or.inl (hw _ (List.mem_of_getElem? (i := 34) rfl))) (Or.inl (hw _ (List.mem_of_getElem? (i := 15) rfl))) (by decide) (t := .int) (t' := (.array .int)) (by decide) (by decide)))
  have Ff74 := Ff60.other W71 (Or.inr (slot_ne (Or.inl (hw _ (List.mem_of_getElem? (i := 36) rfl))) (Or.inl (hw _ (List.mem_of_getElem? (i := 15) rfl))) (by decide) (t := .int) (t' := (.array .int)) (by decide) (by decide)))
  have Ff75 := Ff62.other W71 (Or.inr (slot_ne (Or.inl (hw _ (List.mem_of_getElem? (i := 17) rfl))) (Or.inl (hw _ (List.mem_of_getElem? (i := 15) rfl))) (by decide) (t := (.array .int)) (t' := (.array .int)) (by decide) (by decide)))
  have Ff76 := Ff63.other W71 (Or.inr (slot_ne (Or.inl (hw _ (List.mem_of_getElem? (i := 19) rfl))) (Or.inl (hw _ (List.mem_of_getElem? (i := 15) rfl))) (by decide) (t := (.array .int)) (t' := (.array .int)) (by decide) (by decide)))
  have Ff77 := Ff64.other W71 (Or.inr (slot_ne (Or.inl (hw _ (List.mem_of_getElem? (i := 22) rfl))) (Or.inl (hw _ (List.mem_of_getElem? (i := 15) rfl))) (by decide) (t := (.array .byte)) (t' := (.array .int)) (by decide) (by decide)))
  have Vf78 := Vf65.other W71 (Ne.symm ne_a1_b5)
  have Ff79 := Ff66.other W71 (Or.inr (slot_ne (Or.inl (hw _ (List.mem_of_getElem? (i := 11) rfl))) (Or.inl (hw _ (List.mem_of_getElem? (i := 15) rfl))) (by decide) (t := (.array .int)) (t' := (.array .int)) (by decide) (by decide)))
  have Vf80 := Vf67.other W71 (Ne.symm ne_a1_b30)
  have Ff81 := Ff68.other W71 (Or.inr (slot_ne (Or.inl (hw _ (List.mem_of_getElem? (i := 13) rfl))) (Or.inl (hw _ (List.mem_of_getElem? (i := 15) rfl))) (by decide) (t := (.array .int)) (t' := (.array .int)) (by decide) (by decide)))
  have Vf82 := V57.other W71 (Ne.symm ne_a1_b57)
  have N71 := Fr.snoc X71 N43 g_a1
  have Z71 : n0 ≤ h71.size := Nat.le_trans Z57 (Keep.of_wr W71).1
  have Kp83 : Keep h0 h71 [a1] := Kp69.wr W71 (Or.inl (List.mem_of_getElem? (i := 0) rfl))
  have ac84 : ∀ t, Steps p.tables e below (T71.setTop (mkF m 28 #[.val (.ref a1)] [])) t → Steps p.tables e below (s₁.setTop (entryFrame m #[(.ref a1)] 1)) t := fun t k => ac70 t (st71 t k)
  have ac85 : ∀ t, Steps p.tables e below (T71.setTop (mkF m 31 #[.val (.ref a1)] [(.int (16 : Int32)), (.ref a1)])) t → Steps p.tables e below (s₁.setTop (entryFrame m #[(.ref a1)] 1)) t := fun t k => ac84 t (by
      show Steps p.tables e below (T71.setTop (mkF m 28 #[.val (.ref a1)] [])) _
      refine XS.aloadN X71.here hx rfl (hb hby d1_28) rfl rfl ?_
      show Steps p.tables e below (T71.setTop (mkF m 29 #[.val (.ref a1)] [(.ref a1)])) _
      refine XS.bipush X71.here hx rfl (hb hby d1_29) ?_
      exact k)
  obtain ⟨T86, h86, k86, X86, e86, E86, A86, st86⟩ := newP X71 hx hZ (hw _ (List.mem_of_getElem? (i := 9) rfl)) e71 (g := (mkF m 31 #[.val (.ref a1)] [(.int (16 : Int32)), (.ref a1)])) rfl (hb hby d1_31) rfl (by decide) (cap := 16) (by decide) (by decide) (by decide) (by decide)
  obtain ⟨b86, g86⟩ : ∃ z, z = h71.size := ⟨_, rfl⟩
  rw [← g86] at A86 st86
  have g_b86 : n0 ≤ b86 := Nat.le_trans Z71 (Nat.le_of_eq g86.symm)
  have sz_b86 : h0.size ≤ b86 := Nat.le_trans Kp83.1 (Nat.le_of_eq g86.symm)
  have ne_a1_b86 : a1 ≠ b86 := Nat.ne_of_lt (Nat.lt_of_lt_of_le Ef72.lt (Nat.le_of_eq g86.symm))
  have ne_b5_b86 : b5 ≠ b86 := Nat.ne_of_lt (Nat.lt_of_lt_of_le Vf78.lt (Nat.le_of_eq g86.symm))
  have ne_b30_b86 : b30 ≠ b86 := Nat.ne_of_lt (Nat.lt_of_lt_of_le Vf80.lt (Nat.le_of_eq g86.symm))
  have ne_b57_b86 : b57 ≠ b86 := Nat.ne_of_lt (Nat.lt_of_lt_of_le Vf82.lt (Nat.le_of_eq g86.symm))
  have Ef87 := Ef72.ext E86
  have Ff88 := Ff73.ext E86
  have Ff89 := Ff74.ext E86
  have Ff90 := Ff75.ext E86
  have Ff91 := Ff76.ext E86
  have Ff92 := Ff77.ext E86
  have Vf93 := Vf78.ext E86
  have Ff94 := Ff79.ext E86
  have Vf95 := Vf80.ext E86
  have Ff96 := Ff81.ext E86
  have Vf97 := Vf82.ext E86
  have Ff98 := Fw71.ext E86
  have Z86 : n0 ≤ h86.size := Nat.le_trans Z71 E86.1
  have Kp99 : Keep h0 h86 [a1] := Kp83.ext E86
  have V86 : own_Ar Z h86 b86 .int 16 (fun _ => (.int (0 : Int32))) := own_Ar.new A86 rfl
  have ac100 : ∀ t, Steps p.tables e below (T86.setTop (mkF m 33 #[.val (.ref a1)] [(.ref b86), (.ref a1)])) t → Steps p.tables e below (s₁.setTop (entryFrame m #[(.ref a1)] 1)) t := fun t k => ac85 t (st86 t k)
  obtain ⟨T101, h101, X101, e101, W101, st101⟩ := putF X86 hx hZ hown (host := "") (Or.inl (hw _ (List.mem_of_getElem? (i := 16) rfl))) Via.refl e86 Ff90 Ef87 (Or.inl (hw _ (List.mem_of_getElem? (i := 17) rfl))) (hw _ (List.mem_of_getElem? (i := 1) rfl)) (ty := (.array .int)) (by decide) rfl rfl (g := (mkF m 33 #[.val (.ref a1)] [(.ref b86), (.ref a1)])) rfl rfl (hb hby d1_33)
  have Fw101 := Ff90.same W101
  have Ef102 := Ef87.wr W101
  have Ff103 := Ff88.other W101 (Or.inr (slot_ne (Or.inl (hw _ (List.mem_of_getElem? (i := 34) rfl))) (Or.inl (hw _ (List.mem_of_getElem? (i := 17) rfl))) (by decide) (t := .int) (t' := (.array .int)) (by decide) (by decide)))
  have Ff104 := Ff89.other W101 (Or.inr (slot_ne (Or.inl (hw _ (List.mem_of_getElem? (i := 36) rfl))) (Or.inl (hw _ (List.mem_of_getElem? (i := 17) rfl))) (by decide) (t := .int) (t' := (.array .int)) (by decide) (by decide)))
  have Ff105 := Ff91.other W101 (Or.inr (slot_ne (Or.inl (hw _ (List.mem_of_getElem? (i := 19) rfl))) (Or.inl (hw _ (List.mem_of_getElem? (i := 17) rfl))) (by decide) (t := (.array .int)) (t' := (.array .int)) (by decide) (by decide)))
  have Ff106 := Ff92.other W101 (Or.inr (slot_ne (Or.inl (hw _ (List.mem_of_getElem? (i := 22) rfl))) (Or.inl (hw _ (List.mem_of_getElem? (i := 17) rfl))) (by decide) (t := (.array .byte)) (t' := (.array .int)) (by decide) (by decide)))
  have Vf107 := Vf93.other W101 (Ne.symm ne_a1_b5)
  have Ff108 := Ff94.other W101 (Or.inr (slot_ne (Or.inl (hw _ (List.mem_of_getElem? (i := 11) rfl))) (Or.inl (hw _ (List.mem_of_getElem? (i := 17) rfl))) (by decide) (t := (.array .int)) (t' := (.array .int)) (by decide) (by decide)))
  have Vf109 := Vf95.other W101 (Ne.symm ne_a1_b30)
  have Ff110 := Ff96.other W101 (Or.inr (slot_ne (Or.inl (hw _ (List.mem_of_getElem? (i := 13) rfl))) (Or.inl (hw _ (List.mem_of_getElem? (i := 17) rfl))) (by decide) (t := (.array .int)) (t' := (.array .int)) (by decide) (by decide)))
  have Vf111 := Vf97.other W101 (Ne.symm ne_a1_b57)
  have Ff112 := Ff98.other W101 (Or.inr (slot_ne (Or.inl (hw _ (List.mem_of_getElem? (i := 15) rfl))) (Or.inl (hw _ (List.mem_of_getElem? (i := 17) rfl))) (by decide) (t := (.array .int)) (t' := (.array .int)) (by decide) (by decide)))
  have Vf113 := V86.other W101 (Ne.symm ne_a1_b86)
  have N101 := Fr.snoc X101 N71 g_a1
  have Z101 : n0 ≤ h101.size := Nat.le_trans Z86 (Keep.of_wr W101).1
  have Kp114 : Keep h0 h101 [a1] := Kp99.wr W101 (Or.inl (List.mem_of_getElem? (i := 0) rfl))
  have ac115 : ∀ t, Steps p.tables e below (T101.setTop (mkF m 36 #[.val (.ref a1)] [])) t → Steps p.tables e below (s₁.setTop (entryFrame m #[(.ref a1)] 1)) t := fun t k => ac100 t (st101 t k)
  have ac116 : ∀ t, Steps p.tables e below (T101.setTop (mkF m 39 #[.val (.ref a1)] [(.int (16 : Int32)), (.ref a1)])) t → Steps p.tables e below (s₁.setTop (entryFrame m #[(.ref a1)] 1)) t := fun t k => ac115 t (by
      show Steps p.tables e below (T101.setTop (mkF m 36 #[.val (.ref a1)] [])) _
      refine XS.aloadN X101.here hx rfl (hb hby d1_36) rfl rfl ?_
      show Steps p.tables e below (T101.setTop (mkF m 37 #[.val (.ref a1)] [(.ref a1)])) _
      refine XS.bipush X101.here hx rfl (hb hby d1_37) ?_
      exact k)
  obtain ⟨T117, h117, k117, X117, e117, E117, A117, st117⟩ := newP X101 hx hZ (hw _ (List.mem_of_getElem? (i := 9) rfl)) e101 (g := (mkF m 39 #[.val (.ref a1)] [(.int (16 : Int32)), (.ref a1)])) rfl (hb hby d1_39) rfl (by decide) (cap := 16) (by decide) (by decide) (by decide) (by decide)
  obtain ⟨b117, g117⟩ : ∃ z, z = h101.size := ⟨_, rfl⟩
  rw [← g117] at A117 st117
  have g_b117 : n0 ≤ b117 := Nat.le_trans Z101 (Nat.le_of_eq g117.symm)
  have sz_b117 : h0.size ≤ b117 := Nat.le_trans Kp114.1 (Nat.le_of_eq g117.symm)
  have ne_a1_b117 : a1 ≠ b117 := Nat.ne_of_lt (Nat.lt_of_lt_of_le Ef102.lt (Nat.le_of_eq g117.symm))
  have ne_b5_b117 : b5 ≠ b117 := Nat.ne_of_lt (Nat.lt_of_lt_of_le Vf107.lt (Nat.le_of_eq g117.symm))
  have ne_b30_b117 : b30 ≠ b117 := Nat.ne_of_lt (Nat.lt_of_lt_of_le Vf109.lt (Nat.le_of_eq g117.symm))
  have ne_b57_b117 : b57 ≠ b117 := Nat.ne_of_lt (Nat.lt_of_lt_of_le Vf111.lt (Nat.le_of_eq g117.symm))
  have ne_b86_b117 : b86 ≠ b117 := Nat.ne_of_lt (Nat.lt_of_lt_of_le Vf113.lt (Nat.le_of_eq g117.symm))
  have Ef118 := Ef102.ext E117
  have Ff119 := Ff103.ext E117
  have Ff120 := Ff104.ext E117
  have Ff121 := Ff105.ext E117
  have Ff122 := Ff106.ext E117
  have Vf123 := Vf107.ext E117
  have Ff124 := Ff108.ext E117
  have Vf125 := Vf109.ext E117
  have Ff126 := Ff110.ext E117
  have Vf127 := Vf111.ext E117
  have Ff128 := Ff112.ext E117
  have Vf129 := Vf113.ext E117
  have Ff130 := Fw101.ext E117
  have Z117 : n0 ≤ h117.size := Nat.le_trans Z101 E117.1
  have Kp131 : Keep h0 h117 [a1] := Kp114.ext E117
  have V117 : own_Ar Z h117 b117 .int 16 (fun _ => (.int (0 : Int32))) := own_Ar.new A117 rfl
  have ac132 : ∀ t, Steps p.tables e below (T117.setTop (mkF m 41 #[.val (.ref a1)] [(.ref b117), (.ref a1)])) t → Steps p.tables e below (s₁.setTop (entryFrame m #[(.ref a1)] 1)) t := fun t k => ac116 t (st117 t k)
  obtain ⟨T133, h133, X133, e133, W133, st133⟩ := putF X117 hx hZ hown (host := "") (Or.inl (hw _ (List.mem_of_getElem? (i := 18) rfl))) Via.refl e117 Ff121 Ef118 (Or.inl (hw _ (List.mem_of_getElem? (i := 19) rfl))) (hw _ (List.mem_of_getElem? (i := 1) rfl)) (ty := (.array .int)) (by decide) rfl rfl (g := (mkF m 41 #[.val (.ref a1)] [(.ref b117), (.ref a1)])) rfl rfl (hb hby d1_41)
  have Fw133 := Ff121.same W133
  have Ef134 := Ef118.wr W133
  have Ff135 := Ff119.other W133 (Or.inr (slot_ne (Or.inl (hw _ (List.mem_of_getElem? (i := 34) rfl))) (Or.inl (hw _ (List.mem_of_getElem? (i := 19) rfl))) (by decide) (t := .int) (t' := (.array .int)) (by decide) (by decide)))
  have Ff136 := Ff120.other W133 (Or.inr (slot_ne (Or.inl (hw _ (List.mem_of_getElem? (i := 36) rfl))) (Or.inl (hw _ (List.mem_of_getElem? (i := 19) rfl))) (by decide) (t := .int) (t' := (.array .int)) (by decide) (by decide)))
  have Ff137 := Ff122.other W133 (Or.inr (slot_ne (Or.inl (hw _ (List.mem_of_getElem? (i := 22) rfl))) (Or.inl (hw _ (List.mem_of_getElem? (i := 19) rfl))) (by decide) (t := (.array .byte)) (t' := (.array .int)) (by decide) (by decide)))
  have Vf138 := Vf123.other W133 (Ne.symm ne_a1_b5)
  have Ff139 := Ff124.other W133 (Or.inr (slot_ne (Or.inl (hw _ (List.mem_of_getElem? (i := 11) rfl))) (Or.inl (hw _ (List.mem_of_getElem? (i := 19) rfl))) (by decide) (t := (.array .int)) (t' := (.array .int)) (by decide) (by decide)))
  have Vf140 := Vf125.other W133 (Ne.symm ne_a1_b30)
  have Ff141 := Ff126.other W133 (Or.inr (slot_ne (Or.inl (hw _ (List.mem_of_getElem? (i := 13) rfl))) (Or.inl (hw _ (List.mem_of_getElem? (i := 19) rfl))) (by decide) (t := (.array .int)) (t' := (.array .int)) (by decide) (by decide)))
  have Vf142 := Vf127.other W133 (Ne.symm ne_a1_b57)
  have Ff143 := Ff128.other W133 (Or.inr (slot_ne (Or.inl (hw _ (List.mem_of_getElem? (i := 15) rfl))) (Or.inl (hw _ (List.mem_of_getElem? (i := 19) rfl))) (by decide) (t := (.array .int)) (t' := (.array .int)) (by decide) (by decide)))
  have Vf144 := Vf129.other W133 (Ne.symm ne_a1_b86)
  have Ff145 := Ff130.other W133 (Or.inr (slot_ne (Or.inl (hw _ (List.mem_of_getElem? (i := 17) rfl))) (Or.inl (hw _ (List.mem_of_getElem? (i := 19) rfl))) (by decide) (t := (.array .int)) (t' := (.array .int)) (by decide) (by decide)))
  have Vf146 := V117.other W133 (Ne.symm ne_a1_b117)
  have N133 := Fr.snoc X133 N101 g_a1
  have Z133 : n0 ≤ h133.size := Nat.le_trans Z117 (Keep.of_wr W133).1
  have Kp147 : Keep h0 h133 [a1] := Kp131.wr W133 (Or.inl (List.mem_of_getElem? (i := 0) rfl))
  have ac148 : ∀ t, Steps p.tables e below (T133.setTop (mkF m 44 #[.val (.ref a1)] [])) t → Steps p.tables e below (s₁.setTop (entryFrame m #[(.ref a1)] 1)) t := fun t k => ac132 t (st133 t k)
  have ac149 : ∀ t, Steps p.tables e below (T133.setTop (mkF m 48 #[.val (.ref a1)] [(.int (256 : Int32)), (.ref a1)])) t → Steps p.tables e below (s₁.setTop (entryFrame m #[(.ref a1)] 1)) t := fun t k => ac148 t (by
      show Steps p.tables e below (T133.setTop (mkF m 44 #[.val (.ref a1)] [])) _
      refine XS.aloadN X133.here hx rfl (hb hby d1_44) rfl rfl ?_
      show Steps p.tables e below (T133.setTop (mkF m 45 #[.val (.ref a1)] [(.ref a1)])) _
      refine XS.sipush X133.here hx rfl (hb hby d1_45) ?_
      exact k)
  obtain ⟨T150, h150, k150, X150, e150, E150, A150, st150⟩ := newP X133 hx hZ (hw _ (List.mem_of_getElem? (i := 20) rfl)) e133 (g := (mkF m 48 #[.val (.ref a1)] [(.int (256 : Int32)), (.ref a1)])) rfl (hb hby d1_48) rfl (by decide) (cap := 256) (by decide) (by decide) (by decide) (by decide)
  obtain ⟨b150, g150⟩ : ∃ z, z = h133.size := ⟨_, rfl⟩
  rw [← g150] at A150 st150
  have g_b150 : n0 ≤ b150 := Nat.le_trans Z133 (Nat.le_of_eq g150.symm)
  have sz_b150 : h0.size ≤ b150 := Nat.le_trans Kp147.1 (Nat.le_of_eq g150.symm)
  have ne_a1_b150 : a1 ≠ b150 := Nat.ne_of_lt (Nat.lt_of_lt_of_le Ef134.lt (Nat.le_of_eq g150.symm))
  have ne_b5_b150 : b5 ≠ b150 := Nat.ne_of_lt (Nat.lt_of_lt_of_le Vf138.lt (Nat.le_of_eq g150.symm))
  have ne_b30_b150 : b30 ≠ b150 := Nat.ne_of_lt (Nat.lt_of_lt_of_le Vf140.lt (Nat.le_of_eq g150.symm))
  have ne_b57_b150 : b57 ≠ b150 := Nat.ne_of_lt (Nat.lt_of_lt_of_le Vf142.lt (Nat.le_of_eq g150.symm))
  have ne_b86_b150 : b86 ≠ b150 := Nat.ne_of_lt (Nat.lt_of_lt_of_le Vf144.lt (Nat.le_of_eq g150.symm))
  have ne_b117_b150 : b117 ≠ b150 := Nat.ne_of_lt (Nat.lt_of_lt_of_le Vf146.lt (Nat.le_of_eq g150.symm))
  have Ef151 := Ef134.ext E150
  have Ff152 := Ff135.ext E150
  have Ff153 := Ff136.ext E150
  have Ff154 := Ff137.ext E150
  have Vf155 := Vf138.ext E150
  have Ff156 := Ff139.ext E150
  have Vf157 := Vf140.ext E150
  have Ff158 := Ff141.ext E150
  have Vf159 := Vf142.ext E150
  have Ff160 := Ff143.ext E150
  have Vf161 := Vf144.ext E150
  have Ff162 := Ff145.ext E150
  have Vf163 := Vf146.ext E150
  have Ff164 := Fw133.ext E150
  have Z150 : n0 ≤ h150.size := Nat.le_trans Z133 E150.1
  have Kp165 : Keep h0 h150 [a1] := Kp147.ext E150
  have V150 : own_Ar Z h150 b150 .byte 256 (fun _ => (.int (0 : Int32))) := own_Ar.new A150 rfl
  have ac166 : ∀ t, Steps p.tables e below (T150.setTop (mkF m 50 #[.val (.ref a1)] [(.ref b150), (.ref a1)])) t → Steps p.tables e below (s₁.setTop (entryFrame m #[(.ref a1)] 1)) t := fun t k => ac149 t (st150 t k)
  obtain ⟨T167, h167, X167, e167, W167, st167⟩ := putF X150 hx hZ hown (host := "") (Or.inl (hw _ (List.mem_of_getElem? (i := 21) rfl))) Via.refl e150 Ff154 Ef151 (Or.inl (hw _ (List.mem_of_getElem? (i := 22) rfl))) (hw _ (List.mem_of_getElem? (i := 1) rfl)) (ty := (.array .byte)) (by decide) rfl rfl (g := (mkF m 50 #[.val (.ref a1)] [(.ref b150), (.ref a1)])) rfl rfl (hb hby d1_50)
  have Fw167 := Ff154.same W167
  have Ef168 := Ef151.wr W167
  have Ff169 := Ff152.other W167 (Or.inr (slot_ne (Or.inl (hw _ (List.mem_of_getElem? (i := 34) rfl))) (Or.inl (hw _ (List.mem_of_getElem? (i := 22) rfl))) (by decide) (t := .int) (t' := (.array .byte)) (by decide) (by decide)))
  have Ff170 := Ff153.other W167 (Or.inr (slot_ne (Or.inl (hw _ (List.mem_of_getElem? (i := 36) rfl))) (Or.inl (hw _ (List.mem_of_getElem? (i := 22) rfl))) (by decide) (t := .int) (t' := (.array .byte)) (by decide) (by decide)))
  have Vf171 := Vf155.other W167 (Ne.symm ne_a1_b5)
  have Ff172 := Ff156.other W167 (Or.inr (slot_ne (Or.inl (hw _ (List.mem_of_getElem? (i := 11) rfl))) (Or.inl (hw _ (List.mem_of_getElem? (i := 22) rfl))) (by decide) (t := (.array .int)) (t' := (.array .byte)) (by decide) (by decide)))
  have Vf173 := Vf157.other W167 (Ne.symm ne_a1_b30)
  have Ff174 := Ff158.other W167 (Or.inr (slot_ne (Or.inl (hw _ (List.mem_of_getElem? (i := 13) rfl))) (Or.inl (hw _ (List.mem_of_getElem? (i := 22) rfl))) (by decide) (t := (.array .int)) (t' := (.array .byte)) (by decide) (by decide)))
  have Vf175 := Vf159.other W167 (Ne.symm ne_a1_b57)
  have Ff176 := Ff160.other W167 (Or.inr (slot_ne (Or.inl (hw _ (List.mem_of_getElem? (i := 15) rfl))) (Or.inl (hw _ (List.mem_of_getElem? (i := 22) rfl))) (by decide) (t := (.array .int)) (t' := (.array .byte)) (by decide) (by decide)))
  have Vf177 := Vf161.other W167 (Ne.symm ne_a1_b86)
  have Ff178 := Ff162.other W167 (Or.inr (slot_ne (Or.inl (hw _ (List.mem_of_getElem? (i := 17) rfl))) (Or.inl (hw _ (List.mem_of_getElem? (i := 22) rfl))) (by decide) (t := (.array .int)) (t' := (.array .byte)) (by decide) (by decide)))
  have Vf179 := Vf163.other W167 (Ne.symm ne_a1_b117)
  have Ff180 := Ff164.other W167 (Or.inr (slot_ne (Or.inl (hw _ (List.mem_of_getElem? (i := 19) rfl))) (Or.inl (hw _ (List.mem_of_getElem? (i := 22) rfl))) (by decide) (t := (.array .int)) (t' := (.array .byte)) (by decide) (by decide)))
  have Vf181 := V150.other W167 (Ne.symm ne_a1_b150)
  have N167 := Fr.snoc X167 N133 g_a1
  have Z167 : n0 ≤ h167.size := Nat.le_trans Z150 (Keep.of_wr W167).1
  have Kp182 : Keep h0 h167 [a1] := Kp165.wr W167 (Or.inl (List.mem_of_getElem? (i := 0) rfl))
  have ac183 : ∀ t, Steps p.tables e below (T167.setTop (mkF m 53 #[.val (.ref a1)] [])) t → Steps p.tables e below (s₁.setTop (entryFrame m #[(.ref a1)] 1)) t := fun t k => ac166 t (st167 t k)
  obtain ⟨fs, hr, hrun, hended, hW, hsame⟩ := X167.leave (v := none) (fun _ => rfl) (BodyLoose.notSynchronized Bd)
  refine ⟨_, _, ac183 _ ?_, hrun, hended, _, _, rfl, ?_, ⟨_, rfl⟩, hW, hsame.mono (by decide) (by decide)⟩
  · show Steps p.tables e below (T167.setTop (mkF m 53 #[.val (.ref a1)] [])) _
    exact X167.returnOut hx Bd.returns (hb hby d1_53) hr
  · show Q1 Z a1 h0 n0 _ T167.heap _
    rw [e167]
    exact ⟨rfl, N167, Kp182, b5, b30, b57, b86, b117, b150, _, _, _, _, _, _, ⟨Ef168, Ff169, Ff170, Ff172, Ff174, Ff176, Ff178, Ff180, Fw167, Vf171, Vf173, Vf175, Vf177, Vf179, Vf181, ne_a1_b5, ne_a1_b30, ne_a1_b57, ne_a1_b86, ne_a1_b117, ne_a1_b150, ne_b5_b30, ne_b5_b57, ne_b5_b86, ne_b5_b117, ne_b5_b150, ne_b30_b57, ne_b30_b86, ne_b30_b117, ne_b30_b150, ne_b57_b86, ne_b57_b117, ne_b57_b150, ne_b86_b117, ne_b86_b150, ne_b117_b150, g_b5, g_b30, g_b57, g_b86, g_b117, g_b150⟩⟩
theorem ef_rm3 (m : MethodId) (x0 : Addr) : entryFrame m #[(.ref x0)] 1 = mkF m 0 #[.val (.ref x0)] [] := by first | (simp [entryFrame, mkF, argsToLocals, Value.category]; done) | rfl
def Q3 (Z : State) (a1 : Addr) (sz : Int32) (used : Int32) (b1 : Addr) (b2 : Addr) (b3 : Addr) (b4 : Addr) (b5 : Addr) (bB : Addr) (f1 : Nat → Value) (f2 : Nat → Value) (f3 : Nat → Value) (f4 : Nat → Value) (f5 : Nat → Value) (fB : Nat → Value) (nB : Nat) (h0 : Heap) (n0 : Nat) (v : Option Value) (h : Heap) (L : List Loc) : Prop := v = some (.ref bB) ∧ Fr n0 L ∧ h = h0
set_option maxRecDepth 65536 in
set_option maxHeartbeats 40000000 in
theorem rm3 (l : Launch) (Z : State) (a0 : Array Value) (hw : ∀ d ∈ tables_1, d.before a0 Z = true) (ws : List Jvm.Cond) (a1 : Addr) (sz : Int32) (used : Int32) (b1 : Addr) (b2 : Addr) (b3 : Addr) (b4 : Addr) (b5 : Addr) (bB : Addr) (f1 : Nat → Value) (f2 : Nat → Value) (f3 : Nat → Value) (f4 : Nat → Value) (f5 : Nat → Value) (fB : Nat → Value) (nB : Nat) (h0 : Heap) (n0 : Nat) (Z0 : n0 ≤ h0.size) (HB : own_T Z h0 n0 a1 sz used b1 b2 b3 b4 b5 bB f1 f2 f3 f4 f5 nB fB) :
    MetFree l (⟨"com/example/termwright/termwright/TokenList", "termBytes", "()[B"⟩ : MethodName) (head1 (Jvm.Cond.code (⟨"com/example/termwright/termwright/TokenList", "termBytes", "()[B"⟩ : MethodName) prog_224_method_8_code 1 (some (.array .byte)) :: ws) ({ frames := 0, cells := 0, slots := 0, locals := 0 } : Room)) (fun a U => a = #[(.ref a1)] ∧ Z.Warmed39 U.vm ∧ U.heap = h0) (fun _ _ _ _ _ => True) (fun _ U o U' => ∃ v L, o = .returned v ∧ Q3 Z a1 sz used b1 b2 b3 b4 b5 bB f1 f2 f3 f4 f5 fB nB h0 n0 v U'.heap L ∧ FrameEnd U o U' L ({ frames := 0, cells := 0, slots := 0, locals := 0 } : Room).cells ({ frames := 0, cells := 0, slots := 0, locals := 0 } : Room).slots) := by
  refine MetFree.of_bodySF (plainFor_of_name pn_3) hisR ?_
  intro p e s m args below meth c s₁ Bd hml0 hP hK
  obtain ⟨rfl, hZ, hh⟩ := hP
  have hx := Bd.exec
  have hby := Bd.bytes
  have hml : c.maxLocals = 1 := hml0
  have hown : s.vm.findClass "com/example/termwright/termwright/TokenList" = some m.cls := findClass_of_methodNamed Bd.named
  have hnm := (name_of_methodNamed Bd.named Bd.method).1
  have X0 : Stand p l e ({ frames := 0, cells := 0, slots := 0, locals := 0 } : Room) s m #[(.ref a1)] below meth c s₁ [] 0 0 := Stand.of_body Bd
  have e0 : s₁.heap = h0 := by rw [← hh, Bd.state]; rfl
  have N0 := Fr.nil n0
  have a0s : ∀ t, Steps p.tables e below (s₁.setTop (mkF m 0 #[.val (.ref a1)] [])) t → Steps p.tables e below (s₁.setTop (entryFrame m #[(.ref a1)] 1)) t := fun t k => castTop (ef_rm3 m a1) k
  obtain ⟨E1, F_sz, F_us, F_0, F_1, F_2, F_3, F_4, F_tb, V_0, V_1, V_2, V_3, V_4, V_5, ne_a1_b1, ne_a1_b2, ne_a1_b3, ne_a1_b4, ne_a1_b5, ne_a1_bB, ne_b1_b2, ne_b1_b3, ne_b1_b4, ne_b1_b5, ne_b1_bB, ne_b2_b3, ne_b2_b4, ne_b2_b5, ne_b2_bB, ne_b3_b4, ne_b3_b5, ne_b3_bB, ne_b4_b5, ne_b4_bB, ne_b5_bB, g_b1, g_b2, g_b3, g_b4, g_b5, g_bB⟩ := id HB
  have ac1 : ∀ t, Steps p.tables e below (s₁.setTop (mkF m 1 #[.val (.ref a1)] [(.ref a1)])) t → Steps p.tables e below (s₁.setTop (entryFrame m #[(.ref a1)] 1)) t := fun t k => a0s t (by
      show Steps p.tables e below (s₁.setTop (mkF m 0 #[.val (.ref a1)] [])) _
      refine XS.aloadN X0.here hx rfl (hb hby d3_0) rfl rfl ?_
      exact k)
  obtain ⟨T2, X2, e2, st2⟩ := getF X0 hx hZ hown (host := "") (Or.inl (hw _ (List.mem_of_getElem? (i := 21) rfl))) Via.refl e0 F_tb (g := (mkF m 1 #[.val (.ref a1)] [(.ref a1)])) rfl rfl (hb hby d3_1)
  have ac3 : ∀ t, Steps p.tables e below (T2.setTop (mkF m 4 #[.val (.ref a1)] [(.ref bB)])) t → Steps p.tables e below (s₁.setTop (entryFrame m #[(.ref a1)] 1)) t := fun t k => ac1 t (st2 t k)
  obtain ⟨fs, hr, hrun, hended, hW, hsame⟩ := X2.leave (v := some (.ref bB)) (fun h => by rw [Bd.returns] at h; cases h) (BodyLoose.notSynchronized Bd)
  refine ⟨_, _, ac3 _ ?_, hrun, hended, _, _, rfl, ?_, ⟨_, rfl⟩, hW, hsame.mono (by decide) (by decide)⟩
  · show Steps p.tables e below (T2.setTop (mkF m 4 #[.val (.ref a1)] [(.ref bB)])) _
    exact retOut X2 hx Bd.returns rfl (Or.inr (Or.inr (Or.inr (Or.inr ⟨rfl, rfl, rfl⟩)))) (hb hby d3_4) hr
  · show Q3 Z a1 sz used b1 b2 b3 b4 b5 bB f1 f2 f3 f4 f5 fB nB h0 n0 _ T2.heap _
    rw [e2]
    exact ⟨rfl, N0, rfl⟩
theorem ef_rm5 (m : MethodId) (x0 : Addr) : entryFrame m #[(.ref x0)] 1 = mkF m 0 #[.val (.ref x0)] [] := by first | (simp [entryFrame, mkF, argsToLocals, Value.category]; done) | rfl
def Q5 (Z : State) (a1 : Addr) (sz : Int32) (used : Int32) (b1 : Addr) (b2 : Addr) (b3 : Addr) (b4 : Addr) (b5 : Addr) (bB : Addr) (f1 : Nat → Value) (f2 : Nat → Value) (f3 : Nat → Value) (f4 : Nat → Value) (f5 : Nat → Value) (fB : Nat → Value) (nB : Nat) (h0 : Heap) (n0 : Nat) (v : Option Value) (h : Heap) (L : List Loc) : Prop := v = some (.int sz) ∧ Fr n0 L ∧ h = h0
set_option maxRecDepth 65536 in
set_option maxHeartbeats 40000000 in
theorem rm5 (l : Launch) (Z : State) (a0 : Array Value) (hw : ∀ d ∈ tables_1, d.before a0 Z = true) (ws : List Jvm.Cond) (a1 : Addr) (sz : Int32) (used : Int32) (b1 : Addr) (b2 : Addr) (b3 : Addr) (b4 : Addr) (b5 : Addr) (bB : Addr) (f1 : Nat → Value) (f2 : Nat → Value) (f3 : Nat → Value) (f4 : Nat → Value) (f5 : Nat → Value) (fB : Nat → Value) (nB : Nat) (h0 : Heap) (n0 : Nat) (Z0 : n0 ≤ h0.size) (HB : own_T Z h0 n0 a1 sz used b1 b2 b3 b4 b5 bB f1 f2 f3 f4 f5 nB fB) :
    MetFree l (⟨"com/example/termwright/termwright/TokenList", "size", "()I"⟩ : MethodName) (head1 (Jvm.Cond.code (⟨"com/example/termwright/termwright/TokenList", "size", "()I"⟩ : MethodName) prog_224_method_3_code 1 (some .int) :: ws) ({ frames := 0, cells := 0, slots := 0, locals := 0 } : Room)) (fun a U => a = #[(.ref a1)] ∧ Z.Warmed39 U.vm ∧ U.heap = h0) (fun _ _ _ _ _ => True) (fun _ U o U' => ∃ v L, o = .returned v ∧ Q5 Z a1 sz used b1 b2 b3 b4 b5 bB f1 f2 f3 f4 f5 fB nB h0 n0 v U'.heap L ∧ FrameEnd U o U' L ({ frames := 0, cells := 0, slots := 0, locals := 0 } : Room).cells ({ frames := 0, cells := 0, slots := 0, locals := 0 } : Room).slots) := by
  refine MetFree.of_bodySF (plainFor_of_name pn_5) hisR ?_
  intro p e s m args below meth c s₁ Bd hml0 hP hK
  obtain ⟨rfl, hZ, hh⟩ := hP
  have hx := Bd.exec
  have hby := Bd.bytes
  have hml : c.maxLocals = 1 := hml0
  have hown : s.vm.findClass "com/example/termwright/termwright/TokenList" = some m.cls := findClass_of_methodNamed Bd.named
  have hnm := (name_of_methodNamed Bd.named Bd.method).1
  have X0 : Stand p l e ({ frames := 0, cells := 0, slots := 0, locals := 0 } : Room) s m #[(.ref a1)] below meth c s₁ [] 0 0 := Stand.of_body Bd
  have e0 : s₁.heap = h0 := by rw [← hh, Bd.state]; rfl
  have N0 := Fr.nil n0
  have a0s : ∀ t, Steps p.tables e below (s₁.setTop (mkF m 0 #[.val (.ref a1)] [])) t → Steps p.tables e below (s₁.setTop (entryFrame m #[(.ref a1)] 1)) t := fun t k => castTop (ef_rm5 m a1) k
  obtain ⟨E1, F_sz, F_us, F_0, F_1, F_2, F_3, F_4, F_tb, V_0, V_1, V_2, V_3, V_4, V_5, ne_a1_b1, ne_a1_b2, ne_a1_b3, ne_a1_b4, ne_a1_b5, ne_a1_bB, ne_b1_b2, ne_b1_b3, ne_b1_b4, ne_b1_b5, ne_b1_bB, ne_b2_b3, ne_b2_b4, ne_b2_b5, ne_b2_bB, ne_b3_b4, ne_b3_b5, ne_b3_bB, ne_b4_b5, ne_b4_bB, ne_b5_bB, g_b1, g_b2, g_b3, g_b4, g_b5, g_bB⟩ := id HB
  have ac1 : ∀ t, Steps p.tables e below (s₁.setTop (mkF m 1 #[.val (.ref a1)] [(.ref a1)])) t → Steps p.tables e below (s₁.setTop (entryFrame m #[(.ref a1)] 1)) t := fun t k => a0s t (by
      show Steps p.tables e below (s₁.setTop (mkF m 0 #[.val (.ref a1)] [])) _
      refine XS.aloadN X0.here hx rfl (hb hby d5_0) rfl rfl ?_
      exact k)
  obtain ⟨T2, X2, e2, st2⟩ := getF X0 hx hZ hown (host := "") (Or.inl (hw _ (List.mem_of_getElem? (i := 33) rfl))) Via.refl e0 F_sz (g := (mkF m 1 #[.val (.ref a1)] [(.ref a1)])) rfl rfl (hb hby d5_1)
  have ac3 : ∀ t, Steps p.tables e below (T2.setTop (mkF m 4 #[.val (.ref a1)] [(.int sz)])) t → Steps p.tables e below (s₁.setTop (entryFrame m #[(.ref a1)] 1)) t := fun t k => ac1 t (st2 t k)
  obtain ⟨fs, hr, hrun, hended, hW, hsame⟩ := X2.leave (v := some (.int sz)) (fun h => by rw [Bd.returns] at h; cases h) (BodyLoose.notSynchronized Bd)
  refine ⟨_, _, ac3 _ ?_, hrun, hended, _, _, rfl, ?_, ⟨_, rfl⟩, hW, hsame.mono (by decide) (by decide)⟩
  · show Steps p.tables e below (T2.setTop (mkF m 4 #[.val (.ref a1)] [(.int sz)])) _
    exact retI X2 hx Bd.returns (hb hby d5_4) hr
  · show Q5 Z a1 sz used b1 b2 b3 b4 b5 bB f1 f2 f3 f4 f5 fB nB h0 n0 _ T2.heap _
    rw [e2]
    exact ⟨rfl, N0, rfl⟩
theorem ef_rm8 (m : MethodId) (x0 : Addr) (x1 : Int32) : entryFrame m #[(.ref x0), (.int x1)] 2 = mkF m 0 #[.val (.ref x0), .val (.int x1)] [] := by first | (simp [entryFrame, mkF, argsToLocals, Value.category]; done) | rfl
def Q8 (Z : State) (a1 : Addr) (p2 : Int32) (sz : Int32) (used : Int32) (b1 : Addr) (b2 : Addr) (b3 : Addr) (b4 : Addr) (b5 : Addr) (bB : Addr) (f1 : Nat → Value) (f2 : Nat → Value) (f3 : Nat → Value) (f4 : Nat → Value) (f5 : Nat → Value) (fB : Nat → Value) (nB : Nat) (xv : Int32) (h0 : Heap) (n0 : Nat) (v : Option Value) (h : Heap) (L : List Loc) : Prop := v = some (.int xv) ∧ Fr n0 L ∧ h = h0
set_option maxRecDepth 65536 in
set_option maxHeartbeats 40000000 in
theorem rm8 (l : Launch) (Z : State) (a0 : Array Value) (hw : ∀ d ∈ tables_1, d.before a0 Z = true) (ws : List Jvm.Cond) (a1 : Addr) (p2 : Int32) (sz : Int32) (used : Int32) (b1 : Addr) (b2 : Addr) (b3 : Addr) (b4 : Addr) (b5 : Addr) (bB : Addr) (f1 : Nat → Value) (f2 : Nat → Value) (f3 : Nat → Value) (f4 : Nat → Value) (f5 : Nat → Value) (fB : Nat → Value) (nB : Nat) (xv : Int32) (h0 : Heap) (n0 : Nat) (Z0 : n0 ≤ h0.size) (HB : own_T Z h0 n0 a1 sz used b1 b2 b3 b4 b5 bB f1 f2 f3 f4 f5 nB fB) (hp : p2.toInt = (0 : Nat)) (hxv : f1 0 = .int xv) :
    MetFree l (⟨"com/example/termwright/termwright/TokenList", "start", "(I)I"⟩ : MethodName) (head1 (Jvm.Cond.code (⟨"com/example/termwright/termwright/TokenList", "start", "(I)I"⟩ : MethodName) prog_224_method_4_code 2 (some .int) :: ws) ({ frames := 0, cells := 0, slots := 0, locals := 0 } : Room)) (fun a U => a = #[(.ref a1), (.int p2)] ∧ Z.Warmed39 U.vm ∧ U.heap = h0) (fun _ _ _ _ _ => True) (fun _ U o U' => ∃ v L, o = .returned v ∧ Q8 Z a1 p2 sz used b1 b2 b3 b4 b5 bB f1 f2 f3 f4 f5 fB nB xv h0 n0 v U'.heap L ∧ FrameEnd U o U' L ({ frames := 0, cells := 0, slots := 0, locals := 0 } : Room).cells ({ frames := 0, cells := 0, slots := 0, locals := 0 } : Room).slots) := by
  refine MetFree.of_bodySF (plainFor_of_name pn_8) hisR ?_
  intro p e s m args below meth c s₁ Bd hml0 hP hK
  obtain ⟨rfl, hZ, hh⟩ := hP
  have hx := Bd.exec
  have hby := Bd.bytes
  have hml : c.maxLocals = 2 := hml0
  have hown : s.vm.findClass "com/example/termwright/termwright/TokenList" = some m.cls := findClass_of_methodNamed Bd.named
  have hnm := (name_of_methodNamed Bd.named Bd.method).1
  have X0 : Stand p l e ({ frames := 0, cells := 0, slots := 0, locals := 0 } : Room) s m #[(.ref a1), (.int p2)] below meth c s₁ [] 0 0 := Stand.of_body Bd
  have e0 : s₁.heap = h0 := by rw [← hh, Bd.state]; rfl
  have N0 := Fr.nil n0
  have a0s : ∀ t, Steps p.tables e below (s₁.setTop (mkF m 0 #[.val (.ref a1), .val (.int p2)] [])) t → Steps p.tables e below (s₁.setTop (entryFrame m #[(.ref a1), (.int p2)] 2)) t := fun t k => castTop (ef_rm8 m a1 p2) k
  obtain ⟨E1, F_sz, F_us, F_0, F_1, F_2, F_3, F_4, F_tb, V_0, V_1, V_2, V_3, V_4, V_5, ne_a1_b1, ne_a1_b2, ne_a1_b3, ne_a1_b4, ne_a1_b5, ne_a1_bB, ne_b1_b2, ne_b1_b3, ne_b1_b4, ne_b1_b5, ne_b1_bB, ne_b2_b3, ne_b2_b4, ne_b2_b5, ne_b2_bB, ne_b3_b4, ne_b3_b5, ne_b3_bB, ne_b4_b5, ne_b4_bB, ne_b5_bB, g_b1, g_b2, g_b3, g_b4, g_b5, g_bB⟩ := id HB
  have ac1 : ∀ t, Steps p.tables e below (s₁.setTop (mkF m 1 #[.val (.ref a1), .val (.int p2)] [(.ref a1)])) t → Steps p.tables e below (s₁.setTop (entryFrame m #[(.ref a1), (.int p2)] 2)) t := fun t k => a0s t (by
      show Steps p.tables e below (s₁.setTop (mkF m 0 #[.val (.ref a1), .val (.int p2)] [])) _
      refine XS.aloadN X0.here hx rfl (hb hby d8_0) rfl rfl ?_
      exact k)
  obtain ⟨T2, X2, e2, st2⟩ := getF X0 hx hZ hown (host := "") (Or.inl (hw _ (List.mem_of_getElem? (i := 10) rfl))) Via.refl e0 F_0 (g := (mkF m 1 #[.val (.ref a1), .val (.int p2)] [(.ref a1)])) rfl rfl (hb hby d8_1)
  have ac3 : ∀ t, Steps p.tables e below (T2.setTop (mkF m 4 #[.val (.ref a1), .val (.int p2)] [(.ref b1)])) t → Steps p.tables e below (s₁.setTop (entryFrame m #[(.ref a1), (.int p2)] 2)) t := fun t k => ac1 t (st2 t k)
  have ac4 : ∀ t, Steps p.tables e below (T2.setTop (mkF m 5 #[.val (.ref a1), .val (.int p2)] [(.int p2), (.ref b1)])) t → Steps p.tables e below (s₁.setTop (entryFrame m #[(.ref a1), (.int p2)] 2)) t := fun t k => ac3 t (by
      show Steps p.tables e below (T2.setTop (mkF m 4 #[.val (.ref a1), .val (.int p2)] [(.ref b1)])) _
      refine XS.iloadN X2.here hx rfl (hb hby d8_4) rfl ?_
      exact k)
  obtain ⟨cl5, Ac5, hin5, hat5⟩ := V_0.at (j := p2) (i := 0) hp (by decide)
  have ac6 : ∀ t, Steps p.tables e below (T2.setTop (mkF m 6 #[.val (.ref a1), .val (.int p2)] [(.int xv)])) t → Steps p.tables e below (s₁.setTop (entryFrame m #[(.ref a1), (.int p2)] 2)) t := fun t k => ac4 t (by
      show Steps p.tables e below (T2.setTop (mkF m 5 #[.val (.ref a1), .val (.int p2)] [(.int p2), (.ref b1)])) _
      refine X2.iaload hx (j := p2) (v := (.int xv)) (by rw [e2]; exact Ac5.1) (State.isArrayOf_alike hZ.alike Ac5.2.1) Ac5.2.2 hin5 (hat5.trans (congrArg some hxv)) (g := (mkF m 5 #[.val (.ref a1), .val (.int p2)] [(.int p2), (.ref b1)])) rfl rfl (hb hby d8_5) _ ?_
      exact k)
  obtain ⟨fs, hr, hrun, hended, hW, hsame⟩ := X2.leave (v := some (.int xv)) (fun h => by rw [Bd.returns] at h; cases h) (BodyLoose.notSynchronized Bd)
  refine ⟨_, _, ac6 _ ?_, hrun, hended, _, _, rfl, ?_, ⟨_, rfl⟩, hW, hsame.mono (by decide) (by decide)⟩
  · show Steps p.tables e below (T2.setTop (mkF m 6 #[.val (.ref a1), .val (.int p2)] [(.int xv)])) _
    exact retI X2 hx Bd.returns (hb hby d8_6) hr
  · show Q8 Z a1 p2 sz used b1 b2 b3 b4 b5 bB f1 f2 f3 f4 f5 fB nB xv h0 n0 _ T2.heap _
    rw [e2]
    exact ⟨rfl, N0, rfl⟩
theorem ef_rm10 (m : MethodId) (x0 : Int32) (x1 : Int64) : entryFrame m #[(.int x0), (.long x1)] 3 = mkF m 0 #[.val (.int x0), .val (.long x1), .second] [] := by first | (simp [entryFrame, mkF, argsToLocals, Value.category]; done) | rfl
def Q10 (Z : State) (p1 : Int32) (q2 : Int64) (h0 : Heap) (n0 : Nat) (v : Option Value) (h : Heap) (L : List Loc) : Prop := v = some (.int (own_gl p1 q2)) ∧ Fr n0 L ∧ h = h0
set_option maxRecDepth 65536 in
set_option maxHeartbeats 40000000 in
theorem rm10 (l : Launch) (Z : State) (a0 : Array Value) (hw : ∀ d ∈ tables_1, d.before a0 Z = true) (ws : List Jvm.Cond) (p1 : Int32) (q2 : Int64) (h0 : Heap) (n0 : Nat) (Z0 : n0 ≤ h0.size) :
    MetFree l (⟨"com/example/termwright/termwright/TokenList", "grownLength", "(IJ)I"⟩ : MethodName) (head1 (Jvm.Cond.code (⟨"com/example/termwright/termwright/TokenList", "grownLength", "(IJ)I"⟩ : MethodName) prog_224_method_16_code 3 (some .int) :: ws) ({ frames := 1, cells := 0, slots := 0, locals := 17 } : Room)) (fun a U => a = #[(.int p1), (.long q2)] ∧ Z.Warmed39 U.vm ∧ U.heap = h0) (fun _ _ _ _ _ => True) (fun _ U o U' => ∃ v L, o = .returned v ∧ Q10 Z p1 q2 h0 n0 v U'.heap L ∧ FrameEnd U o U' L ({ frames := 1, cells := 0, slots := 0, locals := 17 } : Room).cells ({ frames := 1, cells := 0, slots := 0, locals := 17 } : Room).slots) := by
  refine MetFree.of_bodySF (plainFor_of_name pn_10) hisR ?_
  intro p e s m args below meth c s₁ Bd hml0 hP hK
  obtain ⟨rfl, hZ, hh⟩ := hP
  have hx := Bd.exec
  have hby := Bd.bytes
  have hml : c.maxLocals = 3 := hml0
  have hown : s.vm.findClass "com/example/termwright/termwright/TokenList" = some m.cls := findClass_of_methodNamed Bd.named
  have hnm := (name_of_methodNamed Bd.named Bd.method).1
  have X0 : Stand p l e ({ frames := 1, cells := 0, slots := 0, locals := 17 } : Room) s m #[(.int p1), (.long q2)] below meth c s₁ [] 0 0 := Stand.of_body Bd
  have e0 : s₁.heap = h0 := by rw [← hh, Bd.state]; rfl
  have N0 := Fr.nil n0
  have a0s : ∀ t, Steps p.tables e below (s₁.setTop (mkF m 0 #[.val (.int p1), .val (.long q2), .second] [])) t → Steps p.tables e below (s₁.setTop (entryFrame m #[(.int p1), (.long q2)] 3)) t := fun t k => castTop (ef_rm10 m p1 q2) k
  have ac1 : ∀ t, Steps p.tables e below (s₁.setTop (mkF m 10 #[.val (.int p1), .val (.long q2), .second] [(.long ((2 : Int64) * (p1.toInt64))), (.long (2147483639 : Int64)), (.long q2)])) t → Steps p.tables e below (s₁.setTop (entryFrame m #[(.int p1), (.long q2)] 3)) t := fun t k => a0s t (by
      show Steps p.tables e below (s₁.setTop (mkF m 0 #[.val (.int p1), .val (.long q2), .second] [])) _
      refine XS.lloadN X0.here hx rfl (hb hby d10_0) rfl ?_
      show Steps p.tables e below (s₁.setTop (mkF m 1 #[.val (.int p1), .val (.long q2), .second] [(.long q2)])) _
      refine X0.ldc2Long hx hown (mvT hZ (hw _ (List.mem_of_getElem? (i := 66) rfl))) (g := (mkF m 1 #[.val (.int p1), .val (.long q2), .second] [(.long q2)])) rfl (hb hby d10_1) _ ?_
      show Steps p.tables e below (s₁.setTop (mkF m 4 #[.val (.int p1), .val (.long q2), .second] [(.long (2147483639 : Int64)), (.long q2)])) _
      refine X0.ldc2Long hx hown (mvT hZ (hw _ (List.mem_of_getElem? (i := 67) rfl))) (g := (mkF m 4 #[.val (.int p1), .val (.long q2), .second] [(.long (2147483639 : Int64)), (.long q2)])) rfl (hb hby d10_4) _ ?_
      show Steps p.tables e below (s₁.setTop (mkF m 7 #[.val (.int p1), .val (.long q2), .second] [(.long (2 : Int64)), (.long (2147483639 : Int64)), (.long q2)])) _
      refine XS.iloadN X0.here hx rfl (hb hby d10_7) rfl ?_
      show Steps p.tables e below (s₁.setTop (mkF m 8 #[.val (.int p1), .val (.long q2), .second] [(.int p1), (.long (2 : Int64)), (.long (2147483639 : Int64)), (.long q2)])) _
      refine XS.i2l X0.here hx rfl (hb hby d10_8) rfl ?_
      show Steps p.tables e below (s₁.setTop (mkF m 9 #[.val (.int p1), .val (.long q2), .second] [(.long (p1.toInt64)), (.long (2 : Int64)), (.long (2147483639 : Int64)), (.long q2)])) _
      refine XS.lmul X0.here hx rfl (hb hby d10_9) rfl ?_
      exact k)
  obtain ⟨_, _, ⟨T2, L2, k2, n2⟩, -, X2, ⟨Lc2, hQ2, l2, y2, z2⟩, st2⟩ := Jvm.LawKit.callS X0 hx (y := (⟨"java/lang/Math", "min", "(JJ)J"⟩ : MethodName)) hown (mvT hZ (hw _ (List.mem_of_getElem? (i := 68) rfl))) (mvT hZ (hw _ (List.mem_of_getElem? (i := 69) rfl))) (mvT hZ (hw _ (List.mem_of_getElem? (i := 70) rfl))) (mvT hZ (hw _ (List.mem_of_getElem? (i := 71) rfl))) (by decide) (backOf (W := 2) (rm11 l Z a0 hw [] (2147483639 : Int64) ((2 : Int64) * (p1.toInt64))  h0 n0 Z0 ) hZ (hw _ (List.mem_of_getElem? (i := 71) rfl)) (hw _ (List.mem_of_getElem? (i := 70) rfl)) (by decide) (by decide)) (g := (mkF m 10 #[.val (.int p1), .val (.long q2), .second] [(.long ((2 : Int64) * (p1.toInt64))), (.long (2147483639 : Int64)), (.long q2)])) rfl (by rw [hml]; rfl) (argsL := [(.long (2147483639 : Int64)), (.long ((2 : Int64) * (p1.toInt64)))]) (rest := [(.long q2)]) (lenOf pd_8 rfl) rfl (by show 2 * 0 + _ ≤ _; exact Nat.le_of_eq rfl) (hb hby d10_10) (fun _ _ => ⟨rfl, e0, (by decide : 0 + 0 ≤ _), (by decide : 0 + 0 ≤ _)⟩)
  dsimp only [Pt.U, Pt.locs, Pt.cells, Pt.slots] at X2 l2 y2 z2 st2 hQ2
  subst l2 y2 z2
  obtain ⟨rfl, N2q, Qe2⟩ := hQ2
  have N2 := Fr.app N0 N2q
  have ac3 : ∀ t, Steps p.tables e below (T2.setTop (mkF m 13 #[.val (.int p1), .val (.long q2), .second] [(.long (own_minL (2147483639 : Int64) ((2 : Int64) * (p1.toInt64)))), (.long q2)])) t → Steps p.tables e below (s₁.setTop (entryFrame m #[(.int p1), (.long q2)] 3)) t := fun t k => ac1 t (st2 t k)
  obtain ⟨_, _, ⟨T4, L4, k4, n4⟩, -, X4, ⟨Lc4, hQ4, l4, y4, z4⟩, st4⟩ := Jvm.LawKit.callS X2 hx (y := (⟨"java/lang/Math", "max", "(JJ)J"⟩ : MethodName)) hown (mvT hZ (hw _ (List.mem_of_getElem? (i := 72) rfl))) (mvT hZ (hw _ (List.mem_of_getElem? (i := 73) rfl))) (mvT hZ (hw _ (List.mem_of_getElem? (i := 70) rfl))) (mvT hZ (hw _ (List.mem_of_getElem? (i := 74) rfl))) (by decide) (backOf (W := 0) (rm12 l Z a0 hw [] q2 (own_minL (2147483639 : Int64) ((2 : Int64) * (p1.toInt64)))  h0 n0 Z0 ) hZ (hw _ (List.mem_of_getElem? (i := 74) rfl)) (hw _ (List.mem_of_getElem? (i := 70) rfl)) (by decide) (by decide)) (g := (mkF m 13 #[.val (.int p1), .val (.long q2), .second] [(.long (own_minL (2147483639 : Int64) ((2 : Int64) * (p1.toInt64)))), (.long q2)])) rfl (by rw [hml]; rfl) (argsL := [(.long q2), (.long (own_minL (2147483639 : Int64) ((2 : Int64) * (p1.toInt64))))]) (rest := []) (lenOf pd_8 rfl) rfl (by show 2 * 0 + _ ≤ _; exact Nat.le_of_eq rfl) (hb hby d10_13) (fun _ _ => ⟨rfl, Qe2, (by decide : 0 + 0 ≤ _), (by decide : 0 + 0 ≤ _)⟩)
  dsimp only [Pt.U, Pt.locs, Pt.cells, Pt.slots] at X4 l4 y4 z4 st4 hQ4
  subst l4 y4 z4
  obtain ⟨rfl, N4q, Qe4⟩ := hQ4
  have N4 := Fr.app N2 N4q
  have ac5 : ∀ t, Steps p.tables e below (T4.setTop (mkF m 16 #[.val (.int p1), .val (.long q2), .second] [(.long (own_maxL q2 (own_minL (2147483639 : Int64) ((2 : Int64) * (p1.toInt64)))))])) t → Steps p.tables e below (s₁.setTop (entryFrame m #[(.int p1), (.long q2)] 3)) t := fun t k => ac3 t (st4 t k)
  have ac6 : ∀ t, Steps p.tables e below (T4.setTop (mkF m 17 #[.val (.int p1), .val (.long q2), .second] [(.int ((own_maxL q2 (own_minL (2147483639 : Int64) ((2 : Int64) * (p1.toInt64)))).toInt32))])) t → Steps p.tables e below (s₁.setTop (entryFrame m #[(.int p1), (.long q2)] 3)) t := fun t k => ac5 t (by
      show Steps p.tables e below (T4.setTop (mkF m 16 #[.val (.int p1), .val (.long q2), .second] [(.long (own_maxL q2 (own_minL (2147483639 : Int64) ((2 : Int64) * (p1.toInt64)))))])) _
      refine XS.l2i X4.here hx rfl (hb hby d10_16) rfl ?_
      exact k)
  obtain ⟨fs, hr, hrun, hended, hW, hsame⟩ := X4.leave (v := some (.int ((own_maxL q2 (own_minL (2147483639 : Int64) ((2 : Int64) * (p1.toInt64)))).toInt32))) (fun h => by rw [Bd.returns] at h; cases h) (BodyLoose.notSynchronized Bd)
  refine ⟨_, _, ac6 _ ?_, hrun, hended, _, _, rfl, ?_, ⟨_, rfl⟩, hW, hsame.mono (by decide) (by decide)⟩
  · show Steps p.tables e below (T4.setTop (mkF m 17 #[.val (.int p1), .val (.long q2), .second] [(.int ((own_maxL q2 (own_minL (2147483639 : Int64) ((2 : Int64) * (p1.toInt64)))).toInt32))])) _
    exact retI X4 hx Bd.returns (hb hby d10_17) hr
  · show Q10 Z p1 q2 h0 n0 _ T4.heap _
    rw [Qe4]
    exact ⟨rfl, N4, rfl⟩
theorem ef_rm7n (m : MethodId) (x0 : Addr) (x1 : Int32) : entryFrame m #[(.ref x0), (.int x1)] 2 = mkF m 0 #[.val (.ref x0), .val (.int x1)] [] := by first | (simp [entryFrame, mkF, argsToLocals, Value.category]; done) | rfl
def Q7n (Z : State) (a1 : Addr) (p2 : Int32) (sz : Int32) (used : Int32) (b1 : Addr) (b2 : Addr) (b3 : Addr) (b4 : Addr) (b5 : Addr) (bB : Addr) (f1 : Nat → Value) (f2 : Nat → Value) (f3 : Nat → Value) (f4 : Nat → Value) (f5 : Nat → Value) (fB : Nat → Value) (nB : Nat) (h0 : Heap) (n0 : Nat) (v : Option Value) (h : Heap) (L : List Loc) : Prop := v = none ∧ Fr n0 L ∧ h = h0
set_option maxRecDepth 65536 in
set_option maxHeartbeats 40000000 in
theorem rm7n (l : Launch) (Z : State) (a0 : Array Value) (hw : ∀ d ∈ tables_1, d.before a0 Z = true) (ws : List Jvm.Cond) (a1 : Addr) (p2 : Int32) (sz : Int32) (used : Int32) (b1 : Addr) (b2 : Addr) (b3 : Addr) (b4 : Addr) (b5 : Addr) (bB : Addr) (f1 : Nat → Value) (f2 : Nat → Value) (f3 : Nat → Value) (f4 : Nat → Value) (f5 : Nat → Value) (fB : Nat → Value) (nB : Nat) (h0 : Heap) (n0 : Nat) (Z0 : n0 ≤ h0.size) (HB : own_T Z h0 n0 a1 sz used b1 b2 b3 b4 b5 bB f1 f2 f3 f4 f5 nB fB) (hr : ¬ (Int32.ofNat nB - used) < p2) :
    MetFree l (⟨"com/example/termwright/termwright/TokenList", "makeRoom", "(I)V"⟩ : MethodName) (head1 (Jvm.Cond.code (⟨"com/example/termwright/termwright/TokenList", "makeRoom", "(I)V"⟩ : MethodName) prog_224_method_15_code 2 none :: ws) ({ frames := 0, cells := 0, slots := 0, locals := 0 } : Room)) (fun a U => a = #[(.ref a1), (.int p2)] ∧ Z.Warmed39 U.vm ∧ U.heap = h0) (fun _ _ _ _ _ => True) (fun _ U o U' => ∃ v L, o = .returned v ∧ Q7n Z a1 p2 sz used b1 b2 b3 b4 b5 bB f1 f2 f3 f4 f5 fB nB h0 n0 v U'.heap L ∧ FrameEnd U o U' L ({ frames := 0, cells := 0, slots := 0, locals := 0 } : Room).cells ({ frames := 0, cells := 0, slots := 0, locals := 0 } : Room).slots) := by
  refine MetFree.of_bodySF (plainFor_of_name pn_7) hisR ?_
  intro p e s m args below meth c s₁ Bd hml0 hP hK
  obtain ⟨rfl, hZ, hh⟩ := hP
  have hx := Bd.exec
  have hby := Bd.bytes
  have hml : c.maxLocals = 2 := hml0
  have hown : s.vm.findClass "com/example/termwright/termwright/TokenList" = some m.cls := findClass_of_methodNamed Bd.named
  have hnm := (name_of_methodNamed Bd.named Bd.method).1
  have X0 : Stand p l e ({ frames := 0, cells := 0, slots := 0, locals := 0 } : Room) s m #[(.ref a1), (.int p2)] below meth c s₁ [] 0 0 := Stand.of_body Bd
  have e0 : s₁.heap = h0 := by rw [← hh, Bd.state]; rfl
  have N0 := Fr.nil n0
  have a0s : ∀ t, Steps p.tables e below (s₁.setTop (mkF m 0 #[.val (.ref a1), .val (.int p2)] [])) t → Steps p.tables e below (s₁.setTop (entryFrame m #[(.ref a1), (.int p2)] 2)) t := fun t k => castTop (ef_rm7n m a1 p2) k
  obtain ⟨E1, F_sz, F_us, F_0, F_1, F_2, F_3, F_4, F_tb, V_0, V_1, V_2, V_3, V_4, V_5, ne_a1_b1, ne_a1_b2, ne_a1_b3, ne_a1_b4, ne_a1_b5, ne_a1_bB, ne_b1_b2, ne_b1_b3, ne_b1_b4, ne_b1_b5, ne_b1_bB, ne_b2_b3, ne_b2_b4, ne_b2_b5, ne_b2_bB, ne_b3_b4, ne_b3_b5, ne_b3_bB, ne_b4_b5, ne_b4_bB, ne_b5_bB, g_b1, g_b2, g_b3, g_b4, g_b5, g_bB⟩ := id HB
  have ac1 : ∀ t, Steps p.tables e below (s₁.setTop (mkF m 2 #[.val (.ref a1), .val (.int p2)] [(.ref a1), (.int p2)])) t → Steps p.tables e below (s₁.setTop (entryFrame m #[(.ref a1), (.int p2)] 2)) t := fun t k => a0s t (by
      show Steps p.tables e below (s₁.setTop (mkF m 0 #[.val (.ref a1), .val (.int p2)] [])) _
      refine XS.iloadN X0.here hx rfl (hb hby d7_0) rfl ?_
      show Steps p.tables e below (s₁.setTop (mkF m 1 #[.val (.ref a1), .val (.int p2)] [(.int p2)])) _
      refine XS.aloadN X0.here hx rfl (hb hby d7_1) rfl rfl ?_
      exact k)
  obtain ⟨T2, X2, e2, st2⟩ := getF X0 hx hZ hown (host := "") (Or.inl (hw _ (List.mem_of_getElem? (i := 21) rfl))) Via.refl e0 F_tb (g := (mkF m 2 #[.val (.ref a1), .val (.int p2)] [(.ref a1), (.int p2)])) rfl rfl (hb hby d7_2)
  have ac3 : ∀ t, Steps p.tables e below (T2.setTop (mkF m 5 #[.val (.ref a1), .val (.int p2)] [(.ref bB), (.int p2)])) t → Steps p.tables e below (s₁.setTop (entryFrame m #[(.ref a1), (.int p2)] 2)) t := fun t k => ac1 t (st2 t k)
  obtain ⟨cl4, Ac4, hl4, hb4⟩ := V_5.len
  have ac5 : ∀ t, Steps p.tables e below (T2.setTop (mkF m 7 #[.val (.ref a1), .val (.int p2)] [(.ref a1), (.int (Int32.ofNat nB)), (.int p2)])) t → Steps p.tables e below (s₁.setTop (entryFrame m #[(.ref a1), (.int p2)] 2)) t := fun t k => ac3 t (by
      show Steps p.tables e below (T2.setTop (mkF m 5 #[.val (.ref a1), .val (.int p2)] [(.ref bB), (.int p2)])) _
      refine X2.arraylength hx (by rw [e2]; exact Ac4.1) (State.isArrayOf_alike hZ.alike Ac4.2.1) (g := (mkF m 5 #[.val (.ref a1), .val (.int p2)] [(.ref bB), (.int p2)])) rfl rfl (hb hby d7_5) _ ?_
      rw [hl4]
      show Steps p.tables e below (T2.setTop (mkF m 6 #[.val (.ref a1), .val (.int p2)] [(.int (Int32.ofNat nB)), (.int p2)])) _
      refine XS.aloadN X2.here hx rfl (hb hby d7_6) rfl rfl ?_
      exact k)
  obtain ⟨T6, X6, e6, st6⟩ := getF X2 hx hZ hown (host := "") (Or.inl (hw _ (List.mem_of_getElem? (i := 35) rfl))) Via.refl e2 F_us (g := (mkF m 7 #[.val (.ref a1), .val (.int p2)] [(.ref a1), (.int (Int32.ofNat nB)), (.int p2)])) rfl rfl (hb hby d7_7)
  have ac7 : ∀ t, Steps p.tables e below (T6.setTop (mkF m 10 #[.val (.ref a1), .val (.int p2)] [(.int used), (.int (Int32.ofNat nB)), (.int p2)])) t → Steps p.tables e below (s₁.setTop (entryFrame m #[(.ref a1), (.int p2)] 2)) t := fun t k => ac5 t (st6 t k)
  have ac8 : ∀ t, Steps p.tables e below (T6.setTop (mkF m 41 #[.val (.ref a1), .val (.int p2)] [])) t → Steps p.tables e below (s₁.setTop (entryFrame m #[(.ref a1), (.int p2)] 2)) t := fun t k => ac7 t (by
      show Steps p.tables e below (T6.setTop (mkF m 10 #[.val (.ref a1), .val (.int p2)] [(.int used), (.int (Int32.ofNat nB)), (.int p2)])) _
      refine XS.isub X6.here hx rfl (hb hby d7_10) rfl ?_
      show Steps p.tables e below (T6.setTop (mkF m 11 #[.val (.ref a1), .val (.int p2)] [(.int ((Int32.ofNat nB) - used)), (.int p2)])) _
      refine XS.icmpYes X6.here hx rfl (pc0 := 11) (pc' := 41) rfl (hb hby d7_11) rfl (flt hr).2.2.2 (by decide) (by decide) ?_
      exact k)
  obtain ⟨fs, hr, hrun, hended, hW, hsame⟩ := X6.leave (v := none) (fun _ => rfl) (BodyLoose.notSynchronized Bd)
  refine ⟨_, _, ac8 _ ?_, hrun, hended, _, _, rfl, ?_, ⟨_, rfl⟩, hW, hsame.mono (by decide) (by decide)⟩
  · show Steps p.tables e below (T6.setTop (mkF m 41 #[.val (.ref a1), .val (.int p2)] [])) _
    exact X6.returnOut hx Bd.returns (hb hby d7_41) hr
  · show Q7n Z a1 p2 sz used b1 b2 b3 b4 b5 bB f1 f2 f3 f4 f5 fB nB h0 n0 _ T6.heap _
    rw [e6]
    exact ⟨rfl, N0, rfl⟩
theorem ef_rm7g (m : MethodId) (x0 : Addr) (x1 : Int32) : entryFrame m #[(.ref x0), (.int x1)] 2 = mkF m 0 #[.val (.ref x0), .val (.int x1)] [] := by first | (simp [entryFrame, mkF, argsToLocals, Value.category]; done) | rfl
def Q7g (Z : State) (a1 : Addr) (p2 : Int32) (sz : Int32) (b1 : Addr) (b2 : Addr) (b3 : Addr) (b4 : Addr) (b5 : Addr) (bB : Addr) (f1 : Nat → Value) (f2 : Nat → Value) (f3 : Nat → Value) (f4 : Nat → Value) (f5 : Nat → Value) (fB : Nat → Value) (rn : Nat) (h0 : Heap) (n0 : Nat) (v : Option Value) (h : Heap) (L : List Loc) : Prop := ∃ (bB' : Addr) (nB' : Nat) (fB' : Nat → Value), v = none ∧ Fr n0 L ∧ Keep h0 h [a1] ∧ 256 < nB' ∧ nB' ≤ 65535 ∧ h0.size ≤ bB' ∧ own_T Z h n0 a1 sz 0 b1 b2 b3 b4 b5 bB' f1 f2 f3 f4 f5 nB' fB'
set_option maxRecDepth 65536 in
set_option maxHeartbeats 40000000 in
theorem rm7g (l : Launch) (Z : State) (a0 : Array Value) (hw : ∀ d ∈ tables_1, d.before a0 Z = true) (ws : List Jvm.Cond) (a1 : Addr) (p2 : Int32) (sz : Int32) (b1 : Addr) (b2 : Addr) (b3 : Addr) (b4 : Addr) (b5 : Addr) (bB : Addr) (f1 : Nat → Value) (f2 : Nat → Value) (f3 : Nat → Value) (f4 : Nat → Value) (f5 : Nat → Value) (fB : Nat → Value) (rn : Nat) (h0 : Heap) (n0 : Nat) (Z0 : n0 ≤ h0.size) (HB : own_T Z h0 n0 a1 sz 0 b1 b2 b3 b4 b5 bB f1 f2 f3 f4 f5 256 fB) (g_a1 : n0 ≤ a1) (hrn : p2.toInt = rn) (h1 : 256 < rn) (h2 : rn ≤ 65535) :
    MetFree l (⟨"com/example/termwright/termwright/TokenList", "makeRoom", "(I)V"⟩ : MethodName) (head1 (Jvm.Cond.code (⟨"com/example/termwright/termwright/TokenList", "makeRoom", "(I)V"⟩ : MethodName) prog_224_method_15_code 2 none :: ws) ({ frames := 2, cells := 1, slots := 65535, locals := 33 } : Room)) (fun a U => a = #[(.ref a1), (.int p2)] ∧ Z.Warmed39 U.vm ∧ U.heap = h0) (fun _ _ _ _ _ => True) (fun _ U o U' => ∃ v L, o = .returned v ∧ Q7g Z a1 p2 sz b1 b2 b3 b4 b5 bB f1 f2 f3 f4 f5 fB rn h0 n0 v U'.heap L ∧ FrameEnd U o U' L ({ frames := 2, cells := 1, slots := 65535, locals := 33 } : Room).cells ({ frames := 2, cells := 1, slots := 65535, locals := 33 } : Room).slots) := by
  refine MetFree.of_bodySF (plainFor_of_name pn_7) hisR ?_
  intro p e s m args below meth c s₁ Bd hml0 hP hK
  obtain ⟨rfl, hZ, hh⟩ := hP
  have hx := Bd.exec
  have hby := Bd.bytes
  have hml : c.maxLocals = 2 := hml0
  have hown : s.vm.findClass "com/example/termwright/termwright/TokenList" = some m.cls := findClass_of_methodNamed Bd.named
  have hnm := (name_of_methodNamed Bd.named Bd.method).1
  have X0 : Stand p l e ({ frames := 2, cells := 1, slots := 65535, locals := 33 } : Room) s m #[(.ref a1), (.int p2)] below meth c s₁ [] 0 0 := Stand.of_body Bd
  have e0 : s₁.heap = h0 := by rw [← hh, Bd.state]; rfl
  have N0 := Fr.nil n0
  have a0s : ∀ t, Steps p.tables e below (s₁.setTop (mkF m 0 #[.val (.ref a1), .val (.int p2)] [])) t → Steps p.tables e below (s₁.setTop (entryFrame m #[(.ref a1), (.int p2)] 2)) t := fun t k => castTop (ef_rm7g m a1 p2) k
  obtain ⟨E1, F_sz, F_us, F_0, F_1, F_2, F_3, F_4, F_tb, V_0, V_1, V_2, V_3, V_4, V_5, ne_a1_b1, ne_a1_b2, ne_a1_b3, ne_a1_b4, ne_a1_b5, ne_a1_bB, ne_b1_b2, ne_b1_b3, ne_b1_b4, ne_b1_b5, ne_b1_bB, ne_b2_b3, ne_b2_b4, ne_b2_b5, ne_b2_bB, ne_b3_b4, ne_b3_b5, ne_b3_bB, ne_b4_b5, ne_b4_bB, ne_b5_bB, g_b1, g_b2, g_b3, g_b4, g_b5, g_bB⟩ := id HB
  have ac1 : ∀ t, Steps p.tables e below (s₁.setTop (mkF m 2 #[.val (.ref a1), .val (.int p2)] [(.ref a1), (.int p2)])) t → Steps p.tables e below (s₁.setTop (entryFrame m #[(.ref a1), (.int p2)] 2)) t := fun t k => a0s t (by
      show Steps p.tables e below (s₁.setTop (mkF m 0 #[.val (.ref a1), .val (.int p2)] [])) _
      refine XS.iloadN X0.here hx rfl (hb hby d7_0) rfl ?_
      show Steps p.tables e below (s₁.setTop (mkF m 1 #[.val (.ref a1), .val (.int p2)] [(.int p2)])) _
      refine XS.aloadN X0.here hx rfl (hb hby d7_1) rfl rfl ?_
      exact k)
  obtain ⟨T2, X2, e2, st2⟩ := getF X0 hx hZ hown (host := "") (Or.inl (hw _ (List.mem_of_getElem? (i := 21) rfl))) Via.refl e0 F_tb (g := (mkF m 2 #[.val (.ref a1), .val (.int p2)] [(.ref a1), (.int p2)])) rfl rfl (hb hby d7_2)
  have ac3 : ∀ t, Steps p.tables e below (T2.setTop (mkF m 5 #[.val (.ref a1), .val (.int p2)] [(.ref bB), (.int p2)])) t → Steps p.tables e below (s₁.setTop (entryFrame m #[(.ref a1), (.int p2)] 2)) t := fun t k => ac1 t (st2 t k)
  obtain ⟨cl4, Ac4, hl4, hb4⟩ := V_5.len
  have ac5 : ∀ t, Steps p.tables e below (T2.setTop (mkF m 7 #[.val (.ref a1), .val (.int p2)] [(.ref a1), (.int (Int32.ofNat 256)), (.int p2)])) t → Steps p.tables e below (s₁.setTop (entryFrame m #[(.ref a1), (.int p2)] 2)) t := fun t k => ac3 t (by
      show Steps p.tables e below (T2.setTop (mkF m 5 #[.val (.ref a1), .val (.int p2)] [(.ref bB), (.int p2)])) _
      refine X2.arraylength hx (by rw [e2]; exact Ac4.1) (State.isArrayOf_alike hZ.alike Ac4.2.1) (g := (mkF m 5 #[.val (.ref a1), .val (.int p2)] [(.ref bB), (.int p2)])) rfl rfl (hb hby d7_5) _ ?_
      rw [hl4]
      show Steps p.tables e below (T2.setTop (mkF m 6 #[.val (.ref a1), .val (.int p2)] [(.int (Int32.ofNat 256)), (.int p2)])) _
      refine XS.aloadN X2.here hx rfl (hb hby d7_6) rfl rfl ?_
      exact k)
  obtain ⟨T6, X6, e6, st6⟩ := getF X2 hx hZ hown (host := "") (Or.inl (hw _ (List.mem_of_getElem? (i := 35) rfl))) Via.refl e2 F_us (g := (mkF m 7 #[.val (.ref a1), .val (.int p2)] [(.ref a1), (.int (Int32.ofNat 256)), (.int p2)])) rfl rfl (hb hby d7_7)
  have ac7 : ∀ t, Steps p.tables e below (T6.setTop (mkF m 10 #[.val (.ref a1), .val (.int p2)] [(.int (0 : Int32)), (.int (Int32.ofNat 256)), (.int p2)])) t → Steps p.tables e below (s₁.setTop (entryFrame m #[(.ref a1), (.int p2)] 2)) t := fun t k => ac5 t (st6 t k)
  have hs0 := own_sub0 256 (by decide)
  have ac8 : ∀ t, Steps p.tables e below (T6.setTop (mkF m 16 #[.val (.ref a1), .val (.int p2)] [(.ref a1), (.ref a1)])) t → Steps p.tables e below (s₁.setTop (entryFrame m #[(.ref a1), (.int p2)] 2)) t := fun t k => ac7 t (by
      show Steps p.tables e below (T6.setTop (mkF m 10 #[.val (.ref a1), .val (.int p2)] [(.int (0 : Int32)), (.int (Int32.ofNat 256)), (.int p2)])) _
      refine XS.isub X6.here hx rfl (hb hby d7_10) rfl ?_
      show Steps p.tables e below (T6.setTop (mkF m 11 #[.val (.ref a1), .val (.int p2)] [(.int ((Int32.ofNat 256) - (0 : Int32))), (.int p2)])) _
      refine XS.icmpNo X6.here hx rfl (hb hby d7_11) rfl (tlt (own_lt_of (by omega))).2.2.2 ?_
      show Steps p.tables e below (T6.setTop (mkF m 14 #[.val (.ref a1), .val (.int p2)] [])) _
      refine XS.aloadN X6.here hx rfl (hb hby d7_14) rfl rfl ?_
      show Steps p.tables e below (T6.setTop (mkF m 15 #[.val (.ref a1), .val (.int p2)] [(.ref a1)])) _
      refine XS.aloadN X6.here hx rfl (hb hby d7_15) rfl rfl ?_
      exact k)
  obtain ⟨T9, X9, e9, st9⟩ := getF X6 hx hZ hown (host := "") (Or.inl (hw _ (List.mem_of_getElem? (i := 21) rfl))) Via.refl e6 F_tb (g := (mkF m 16 #[.val (.ref a1), .val (.int p2)] [(.ref a1), (.ref a1)])) rfl rfl (hb hby d7_16)
  have ac10 : ∀ t, Steps p.tables e below (T9.setTop (mkF m 19 #[.val (.ref a1), .val (.int p2)] [(.ref bB), (.ref a1)])) t → Steps p.tables e below (s₁.setTop (entryFrame m #[(.ref a1), (.int p2)] 2)) t := fun t k => ac8 t (st9 t k)
  have ac11 : ∀ t, Steps p.tables e below (T9.setTop (mkF m 20 #[.val (.ref a1), .val (.int p2)] [(.ref a1), (.ref bB), (.ref a1)])) t → Steps p.tables e below (s₁.setTop (entryFrame m #[(.ref a1), (.int p2)] 2)) t := fun t k => ac10 t (by
      show Steps p.tables e below (T9.setTop (mkF m 19 #[.val (.ref a1), .val (.int p2)] [(.ref bB), (.ref a1)])) _
      refine XS.aloadN X9.here hx rfl (hb hby d7_19) rfl rfl ?_
      exact k)
  obtain ⟨T12, X12, e12, st12⟩ := getF X9 hx hZ hown (host := "") (Or.inl (hw _ (List.mem_of_getElem? (i := 21) rfl))) Via.refl e9 F_tb (g := (mkF m 20 #[.val (.ref a1), .val (.int p2)] [(.ref a1), (.ref bB), (.ref a1)])) rfl rfl (hb hby d7_20)
  have ac13 : ∀ t, Steps p.tables e below (T12.setTop (mkF m 23 #[.val (.ref a1), .val (.int p2)] [(.ref bB), (.ref bB), (.ref a1)])) t → Steps p.tables e below (s₁.setTop (entryFrame m #[(.ref a1), (.int p2)] 2)) t := fun t k => ac11 t (st12 t k)
  obtain ⟨cl14, Ac14, hl14, hb14⟩ := V_5.len
  have ac15 : ∀ t, Steps p.tables e below (T12.setTop (mkF m 25 #[.val (.ref a1), .val (.int p2)] [(.ref a1), (.int (Int32.ofNat 256)), (.ref bB), (.ref a1)])) t → Steps p.tables e below (s₁.setTop (entryFrame m #[(.ref a1), (.int p2)] 2)) t := fun t k => ac13 t (by
      show Steps p.tables e below (T12.setTop (mkF m 23 #[.val (.ref a1), .val (.int p2)] [(.ref bB), (.ref bB), (.ref a1)])) _
      refine X12.arraylength hx (by rw [e12]; exact Ac14.1) (State.isArrayOf_alike hZ.alike Ac14.2.1) (g := (mkF m 23 #[.val (.ref a1), .val (.int p2)] [(.ref bB), (.ref bB), (.ref a1)])) rfl rfl (hb hby d7_23) _ ?_
      rw [hl14]
      show Steps p.tables e below (T12.setTop (mkF m 24 #[.val (.ref a1), .val (.int p2)] [(.int (Int32.ofNat 256)), (.ref bB), (.ref a1)])) _
      refine XS.aloadN X12.here hx rfl (hb hby d7_24) rfl rfl ?_
      exact k)
  obtain ⟨T16, X16, e16, st16⟩ := getF X12 hx hZ hown (host := "") (Or.inl (hw _ (List.mem_of_getElem? (i := 35) rfl))) Via.refl e12 F_us (g := (mkF m 25 #[.val (.ref a1), .val (.int p2)] [(.ref a1), (.int (Int32.ofNat 256)), (.ref bB), (.ref a1)])) rfl rfl (hb hby d7_25)
  have ac17 : ∀ t, Steps p.tables e below (T16.setTop (mkF m 28 #[.val (.ref a1), .val (.int p2)] [(.int (0 : Int32)), (.int (Int32.ofNat 256)), (.ref bB), (.ref a1)])) t → Steps p.tables e below (s₁.setTop (entryFrame m #[(.ref a1), (.int p2)] 2)) t := fun t k => ac15 t (st16 t k)
  obtain ⟨gk, hgk, hg1, hg2⟩ := own_gl_v hrn h1 h2
  have ac18 : ∀ t, Steps p.tables e below (T16.setTop (mkF m 32 #[.val (.ref a1), .val (.int p2)] [(.long (((0 : Int32).toInt64) + (p2.toInt64))), (.int (Int32.ofNat 256)), (.ref bB), (.ref a1)])) t → Steps p.tables e below (s₁.setTop (entryFrame m #[(.ref a1), (.int p2)] 2)) t := fun t k => ac17 t (by
      show Steps p.tables e below (T16.setTop (mkF m 28 #[.val (.ref a1), .val (.int p2)] [(.int (0 : Int32)), (.int (Int32.ofNat 256)), (.ref bB), (.ref a1)])) _
      refine XS.i2l X16.here hx rfl (hb hby d7_28) rfl ?_
      show Steps p.tables e below (T16.setTop (mkF m 29 #[.val (.ref a1), .val (.int p2)] [(.long ((0 : Int32).toInt64)), (.int (Int32.ofNat 256)), (.ref bB), (.ref a1)])) _
      refine XS.iloadN X16.here hx rfl (hb hby d7_29) rfl ?_
      show Steps p.tables e below (T16.setTop (mkF m 30 #[.val (.ref a1), .val (.int p2)] [(.int p2), (.long ((0 : Int32).toInt64)), (.int (Int32.ofNat 256)), (.ref bB), (.ref a1)])) _
      refine XS.i2l X16.here hx rfl (hb hby d7_30) rfl ?_
      show Steps p.tables e below (T16.setTop (mkF m 31 #[.val (.ref a1), .val (.int p2)] [(.long (p2.toInt64)), (.long ((0 : Int32).toInt64)), (.int (Int32.ofNat 256)), (.ref bB), (.ref a1)])) _
      refine XS.ladd X16.here hx rfl (hb hby d7_31) rfl ?_
      exact k)
  obtain ⟨_, _, ⟨T19, L19, k19, n19⟩, -, X19, ⟨Lc19, hQ19, l19, y19, z19⟩, st19⟩ := Jvm.LawKit.callS X16 hx (y := (⟨"com/example/termwright/termwright/TokenList", "grownLength", "(IJ)I"⟩ : MethodName)) hown (mvT hZ (hw _ (List.mem_of_getElem? (i := 63) rfl))) (mvT hZ (hw _ (List.mem_of_getElem? (i := 64) rfl))) (mvT hZ (hw _ (List.mem_of_getElem? (i := 2) rfl))) (mvT hZ (hw _ (List.mem_of_getElem? (i := 65) rfl))) (by decide) (backOf (W := 2) (rm10 l Z a0 hw [] (Int32.ofNat 256) (((0 : Int32).toInt64) + (p2.toInt64))  h0 n0 Z0 ) hZ (hw _ (List.mem_of_getElem? (i := 65) rfl)) (hw _ (List.mem_of_getElem? (i := 2) rfl)) (by decide) (by decide)) (g := (mkF m 32 #[.val (.ref a1), .val (.int p2)] [(.long (((0 : Int32).toInt64) + (p2.toInt64))), (.int (Int32.ofNat 256)), (.ref bB), (.ref a1)])) rfl (by rw [hml]; rfl) (argsL := [(.int (Int32.ofNat 256)), (.long (((0 : Int32).toInt64) + (p2.toInt64)))]) (rest := [(.ref bB), (.ref a1)]) (lenOf pd_7 rfl) rfl (by show 2 * 0 + _ ≤ _; exact Nat.le_of_eq rfl) (hb hby d7_32) (fun _ _ => ⟨rfl, e16, (by decide : 0 + 0 ≤ _), (by decide : 0 + 0 ≤ _)⟩)
  dsimp only [Pt.U, Pt.locs, Pt.cells, Pt.slots] at X19 l19 y19 z19 st19 hQ19
  subst l19 y19 z19
  obtain ⟨rfl, N19q, Qe19⟩ := hQ19
  have N19 := Fr.app N0 N19q
  have ac20 : ∀ t, Steps p.tables e below (T19.setTop (mkF m 35 #[.val (.ref a1), .val (.int p2)] [(.int (own_gl (Int32.ofNat 256) ((0 : Int32).toInt64 + p2.toInt64))), (.ref bB), (.ref a1)])) t → Steps p.tables e below (s₁.setTop (entryFrame m #[(.ref a1), (.int p2)] 2)) t := fun t k => ac18 t (st19 t k)
  obtain ⟨_, _, ⟨T21, L21, k21, n21⟩, -, X21, ⟨Lc21, hQ21, l21, y21, z21⟩, st21⟩ := Jvm.LawKit.callS X19 hx (y := (⟨"java/util/Arrays", "copyOf", "([BI)[B"⟩ : MethodName)) hown (mvT hZ (hw _ (List.mem_of_getElem? (i := 75) rfl))) (mvT hZ (hw _ (List.mem_of_getElem? (i := 76) rfl))) (mvT hZ (hw _ (List.mem_of_getElem? (i := 77) rfl))) (mvT hZ (hw _ (List.mem_of_getElem? (i := 78) rfl))) (by decide) (backOf (W := 1) (rm13 l Z a0 hw [] bB (own_gl (Int32.ofNat 256) ((0 : Int32).toInt64 + p2.toInt64)) 256 gk fB h0 n0 Z0 V_5 hgk hg1 hg2) hZ (hw _ (List.mem_of_getElem? (i := 78) rfl)) (hw _ (List.mem_of_getElem? (i := 77) rfl)) (by decide) (by decide)) (g := (mkF m 35 #[.val (.ref a1), .val (.int p2)] [(.int (own_gl (Int32.ofNat 256) ((0 : Int32).toInt64 + p2.toInt64))), (.ref bB), (.ref a1)])) rfl (by rw [hml]; rfl) (argsL := [(.ref bB), (.int (own_gl (Int32.ofNat 256) ((0 : Int32).toInt64 + p2.toInt64)))]) (rest := [(.ref a1)]) (lenOf pd_9 rfl) rfl (by show 2 * 0 + _ ≤ _; exact Nat.le_of_eq rfl) (hb hby d7_35) (fun _ _ => ⟨rfl, Qe19, (by decide : 0 + 1 ≤ _), (by decide : 0 + 65535 ≤ _)⟩)
  dsimp only [Pt.U, Pt.locs, Pt.cells, Pt.slots] at X21 l21 y21 z21 st21 hQ21
  subst l21 y21 z21
  obtain ⟨r21, rfl, N21q, K21q, sz21, Vr21⟩ := hQ21
  have N21 := Fr.app N19 N21q
  have Ef22 := E1.keep K21q
  have Ff23 := F_sz.keep K21q nin0
  have Ff24 := F_us.keep K21q nin0
  have Ff25 := F_0.keep K21q nin0
  have Vf26 := V_0.keep K21q nin0
  have Ff27 := F_1.keep K21q nin0
  have Vf28 := V_1.keep K21q nin0
  have Ff29 := F_2.keep K21q nin0
  have Vf30 := V_2.keep K21q nin0
  have Ff31 := F_3.keep K21q nin0
  have Vf32 := V_3.keep K21q nin0
  have Ff33 := F_4.keep K21q nin0
  have Vf34 := V_4.keep K21q nin0
  have Ff35 := F_tb.keep K21q nin0
  have Vf36 := V_5.keep K21q nin0
  have Z21 : n0 ≤ T21.heap.size := Nat.le_trans Z0 K21q.1
  have Kp37 : Keep h0 T21.heap [a1] := (Keep.refl h0 [a1]).trans K21q all0
  have g_r21 : n0 ≤ r21 := Nat.le_trans Z0 sz21
  have sz_r21 : h0.size ≤ r21 := Nat.le_trans (Keep.refl h0 [a1]).1 sz21
  have ne_a1_r21 : a1 ≠ r21 := Nat.ne_of_lt (Nat.lt_of_lt_of_le E1.lt sz21)
  have ne_b1_r21 : b1 ≠ r21 := Nat.ne_of_lt (Nat.lt_of_lt_of_le V_0.lt sz21)
  have ne_b2_r21 : b2 ≠ r21 := Nat.ne_of_lt (Nat.lt_of_lt_of_le V_1.lt sz21)
  have ne_b3_r21 : b3 ≠ r21 := Nat.ne_of_lt (Nat.lt_of_lt_of_le V_2.lt sz21)
  have ne_b4_r21 : b4 ≠ r21 := Nat.ne_of_lt (Nat.lt_of_lt_of_le V_3.lt sz21)
  have ne_b5_r21 : b5 ≠ r21 := Nat.ne_of_lt (Nat.lt_of_lt_of_le V_4.lt sz21)
  have ne_bB_r21 : bB ≠ r21 := Nat.ne_of_lt (Nat.lt_of_lt_of_le V_5.lt sz21)
  have ac38 : ∀ t, Steps p.tables e below (T21.setTop (mkF m 38 #[.val (.ref a1), .val (.int p2)] [(.ref r21), (.ref a1)])) t → Steps p.tables e below (s₁.setTop (entryFrame m #[(.ref a1), (.int p2)] 2)) t := fun t k => ac20 t (st21 t k)
  obtain ⟨T39, h39, X39, e39, W39, st39⟩ := putF X21 hx hZ hown (host := "") (Or.inl (hw _ (List.mem_of_getElem? (i := 21) rfl))) Via.refl rfl Ff35 Ef22 (Or.inl (hw _ (List.mem_of_getElem? (i := 22) rfl))) (hw _ (List.mem_of_getElem? (i := 1) rfl)) (ty := (.array .byte)) (by decide) rfl rfl (g := (mkF m 38 #[.val (.ref a1), .val (.int p2)] [(.ref r21), (.ref a1)])) rfl rfl (hb hby d7_38)
  have Fw39 := Ff35.same W39
  have Ef40 := Ef22.wr W39
  have Ff41 := Ff23.other W39 (Or.inr (slot_ne (Or.inl (hw _ (List.mem_of_getElem? (i := 34) rfl))) (Or.inl (hw _ (List.mem_of_getElem? (i := 22) rfl))) (by decide) (t := .int) (t' := (.array .byte)) (by decide) (by decide)))
  have Ff42 := Ff24.other W39 (Or.inr (slot_ne (Or.inl (hw _ (List.mem_of_getElem? (i := 36) rfl))) (Or.inl (hw _ (List.mem_of_getElem? (i := 22) rfl))) (by decide) (t := .int) (t' := (.array .byte)) (by decide) (by decide)))
  have Ff43 := Ff25.other W39 (Or.inr (slot_ne (Or.inl (hw _ (List.mem_of_getElem? (i := 11) rfl))) (Or.inl (hw _ (List.mem_of_getElem? (i := 22) rfl))) (by decide) (t := (.array .int)) (t' := (.array .byte)) (by decide) (by decide)))
  have Vf44 := Vf26.other W39 (Ne.symm ne_a1_b1)
  have Ff45 := Ff27.other W39 (Or.inr (slot_ne (Or.inl (hw _ (List.mem_of_getElem? (i := 13) rfl))) (Or.inl (hw _ (List.mem_of_getElem? (i := 22) rfl))) (by decide) (t := (.array .int)) (t' := (.array .byte)) (by decide) (by decide)))
  have Vf46 := Vf28.other W39 (Ne.symm ne_a1_b2)
  have Ff47 := Ff29.other W39 (Or.inr (slot_ne (Or.inl (hw _ (List.mem_of_getElem? (i := 15) rfl))) (Or.inl (hw _ (List.mem_of_getElem? (i := 22) rfl))) (by decide) (t := (.array .int)) (t' := (.array .byte)) (by decide) (by decide)))
  have Vf48 := Vf30.other W39 (Ne.symm ne_a1_b3)
  have Ff49 := Ff31.other W39 (Or.inr (slot_ne (Or.inl (hw _ (List.mem_of_getElem? (i := 17) rfl))) (Or.inl (hw _ (List.mem_of_getElem? (i := 22) rfl))) (by decide) (t := (.array .int)) (t' := (.array .byte)) (by decide) (by decide)))
  have Vf50 := Vf32.other W39 (Ne.symm ne_a1_b4)
  have Ff51 := Ff33.other W39 (Or.inr (slot_ne (Or.inl (hw _ (List.mem_of_getElem? (i := 19) rfl))) (Or.inl (hw _ (List.mem_of_getElem? (i := 22) rfl))) (by decide) (t := (.array .int)) (t' := (.array .byte)) (by decide) (by decide)))
  have Vf52 := Vf34.other W39 (Ne.symm ne_a1_b5)
  have Vf53 := Vr21.other W39 (Ne.symm ne_a1_r21)
  have N39 := Fr.snoc X39 N21 g_a1
  have Z39 : n0 ≤ h39.size := Nat.le_trans Z21 (Keep.of_wr W39).1
  have Kp54 : Keep h0 h39 [a1] := Kp37.wr W39 (Or.inl (List.mem_of_getElem? (i := 0) rfl))
  have ac55 : ∀ t, Steps p.tables e below (T39.setTop (mkF m 41 #[.val (.ref a1), .val (.int p2)] [])) t → Steps p.tables e below (s₁.setTop (entryFrame m #[(.ref a1), (.int p2)] 2)) t := fun t k => ac38 t (st39 t k)
  obtain ⟨fs, hr, hrun, hended, hW, hsame⟩ := X39.leave (v := none) (fun _ => rfl) (BodyLoose.notSynchronized Bd)
  refine ⟨_, _, ac55 _ ?_, hrun, hended, _, _, rfl, ?_, ⟨_, rfl⟩, hW, hsame.mono (by decide) (by decide)⟩
  · show Steps p.tables e below (T39.setTop (mkF m 41 #[.val (.ref a1), .val (.int p2)] [])) _
    exact X39.returnOut hx Bd.returns (hb hby d7_41) hr
  · show Q7g Z a1 p2 sz b1 b2 b3 b4 b5 bB f1 f2 f3 f4 f5 fB rn h0 n0 _ T39.heap _
    rw [e39]
    exact ⟨r21, gk, _, rfl, N39, Kp54, hg1, hg2, sz_r21, ⟨Ef40, Ff41, Ff42, Ff43, Ff45, Ff47, Ff49, Ff51, Fw39, Vf44, Vf46, Vf48, Vf50, Vf52, Vf53, ne_a1_b1, ne_a1_b2, ne_a1_b3, ne_a1_b4, ne_a1_b5, ne_a1_r21, ne_b1_b2, ne_b1_b3, ne_b1_b4, ne_b1_b5, ne_b1_r21, ne_b2_b3, ne_b2_b4, ne_b2_b5, ne_b2_r21, ne_b3_b4, ne_b3_b5, ne_b3_r21, ne_b4_b5, ne_b4_r21, ne_b5_r21, g_b1, g_b2, g_b3, g_b4, g_b5, g_r21⟩⟩
theorem ef_rm6n (m : MethodId) (x0 : Addr) (x1 : Int32) (x2 : Int32) (x3 : Int32) : entryFrame m #[(.ref x0), (.int x1), (.int x2), (.int x3)] 5 = mkF m 0 #[.val (.ref x0), .val (.int x1), .val (.int x2), .val (.int x3), .unset] [] := by first | (simp [entryFrame, mkF, argsToLocals, Value.category]; done) | rfl
def Q6n (Z : State) (a1 : Addr) (p2 : Int32) (p3 : Int32) (p4 : Int32) (b1 : Addr) (b2 : Addr) (b3 : Addr) (b4 : Addr) (b5 : Addr) (bB : Addr) (f1 : Nat → Value) (f2 : Nat → Value) (f3 : Nat → Value) (f4 : Nat → Value) (f5 : Nat → Value) (fB : Nat → Value) (nB : Nat) (h0 : Heap) (n0 : Nat) (v : Option Value) (h : Heap) (L : List Loc) : Prop := ∃ (f1' : Nat → Value) (f2' : Nat → Value) (f3' : Nat → Value) (f4' : Nat → Value) (f5' : Nat → Value), v = some (.int 0) ∧ Fr n0 L ∧ Keep h0 h [a1, b1, b2, b3, b4, b5] ∧ f1' 0 = .int p2 ∧ own_T Z h n0 a1 ((0 : Int32) + (1 : Int32)) 0 b1 b2 b3 b4 b5 bB f1' f2' f3' f4' f5' nB fB
set_option maxRecDepth 65536 in
set_option maxHeartbeats 40000000 in
theorem rm6n (l : Launch) (Z : State) (a0 : Array Value) (hw : ∀ d ∈ tables_1, d.before a0 Z = true) (ws : List Jvm.Cond) (a1 : Addr) (p2 : Int32) (p3 : Int32) (p4 : Int32) (b1 : Addr) (b2 : Addr) (b3 : Addr) (b4 : Addr) (b5 : Addr) (bB : Addr) (f1 : Nat → Value) (f2 : Nat → Value) (f3 : Nat → Value) (f4 : Nat → Value) (f5 : Nat → Value) (fB : Nat → Value) (nB : Nat) (h0 : Heap) (n0 : Nat) (Z0 : n0 ≤ h0.size) (HB : own_T Z h0 n0 a1 0 0 b1 b2 b3 b4 b5 bB f1 f2 f3 f4 f5 nB fB) (g_a1 : n0 ≤ a1) (hr : ¬ (Int32.ofNat nB - 0) < p4) :
    MetFree l (⟨"com/example/termwright/termwright/TokenList", "add", "(III)I"⟩ : MethodName) (head1 (Jvm.Cond.code (⟨"com/example/termwright/termwright/TokenList", "add", "(III)I"⟩ : MethodName) prog_224_method_11_code 5 (some .int) :: ws) ({ frames := 1, cells := 0, slots := 0, locals := 13 } : Room)) (fun a U => a = #[(.ref a1), (.int p2), (.int p3), (.int p4)] ∧ Z.Warmed39 U.vm ∧ U.heap = h0) (fun _ _ _ _ _ => True) (fun _ U o U' => ∃ v L, o = .returned v ∧ Q6n Z a1 p2 p3 p4 b1 b2 b3 b4 b5 bB f1 f2 f3 f4 f5 fB nB h0 n0 v U'.heap L ∧ FrameEnd U o U' L ({ frames := 1, cells := 0, slots := 0, locals := 13 } : Room).cells ({ frames := 1, cells := 0, slots := 0, locals := 13 } : Room).slots) := by
  refine MetFree.of_bodySF (plainFor_of_name pn_6) hisR ?_
  intro p e s m args below meth c s₁ Bd hml0 hP hK
  obtain ⟨rfl, hZ, hh⟩ := hP
  have hx := Bd.exec
  have hby := Bd.bytes
  have hml : c.maxLocals = 5 := hml0
  have hown : s.vm.findClass "com/example/termwright/termwright/TokenList" = some m.cls := findClass_of_methodNamed Bd.named
  have hnm := (name_of_methodNamed Bd.named Bd.method).1
  have X0 : Stand p l e ({ frames := 1, cells := 0, slots := 0, locals := 13 } : Room) s m #[(.ref a1), (.int p2), (.int p3), (.int p4)] below meth c s₁ [] 0 0 := Stand.of_body Bd
  have e0 : s₁.heap = h0 := by rw [← hh, Bd.state]; rfl
  have N0 := Fr.nil n0
  have a0s : ∀ t, Steps p.tables e below (s₁.setTop (mkF m 0 #[.val (.ref a1), .val (.int p2), .val (.int p3), .val (.int p4), .unset] [])) t → Steps p.tables e below (s₁.setTop (entryFrame m #[(.ref a1), (.int p2), (.int p3), (.int p4)] 5)) t := fun t k => castTop (ef_rm6n m a1 p2 p3 p4) k
  obtain ⟨E1, F_sz, F_us, F_0, F_1, F_2, F_3, F_4, F_tb, V_0, V_1, V_2, V_3, V_4, V_5, ne_a1_b1, ne_a1_b2, ne_a1_b3, ne_a1_b4, ne_a1_b5, ne_a1_bB, ne_b1_b2, ne_b1_b3, ne_b1_b4, ne_b1_b5, ne_b1_bB, ne_b2_b3, ne_b2_b4, ne_b2_b5, ne_b2_bB, ne_b3_b4, ne_b3_b5, ne_b3_bB, ne_b4_b5, ne_b4_bB, ne_b5_bB, g_b1, g_b2, g_b3, g_b4, g_b5, g_bB⟩ := id HB
  have ac1 : ∀ t, Steps p.tables e below (s₁.setTop (mkF m 1 #[.val (.ref a1), .val (.int p2), .val (.int p3), .val (.int p4), .unset] [(.ref a1)])) t → Steps p.tables e below (s₁.setTop (entryFrame m #[(.ref a1), (.int p2), (.int p3), (.int p4)] 5)) t := fun t k => a0s t (by
      show Steps p.tables e below (s₁.setTop (mkF m 0 #[.val (.ref a1), .val (.int p2), .val (.int p3), .val (.int p4), .unset] [])) _
      refine XS.aloadN X0.here hx rfl (hb hby d6_0) rfl rfl ?_
      exact k)
  obtain ⟨T2, X2, e2, st2⟩ := getF X0 hx hZ hown (host := "") (Or.inl (hw _ (List.mem_of_getElem? (i := 33) rfl))) Via.refl e0 F_sz (g := (mkF m 1 #[.val (.ref a1), .val (.int p2), .val (.int p3), .val (.int p4), .unset] [(.ref a1)])) rfl rfl (hb hby d6_1)
  have ac3 : ∀ t, Steps p.tables e below (T2.setTop (mkF m 4 #[.val (.ref a1), .val (.int p2), .val (.int p3), .val (.int p4), .unset] [(.int (0 : Int32))])) t → Steps p.tables e below (s₁.setTop (entryFrame m #[(.ref a1), (.int p2), (.int p3), (.int p4)] 5)) t := fun t k => ac1 t (st2 t k)
  have ac4 : ∀ t, Steps p.tables e below (T2.setTop (mkF m 5 #[.val (.ref a1), .val (.int p2), .val (.int p3), .val (.int p4), .unset] [(.ref a1), (.int (0 : Int32))])) t → Steps p.tables e below (s₁.setTop (entryFrame m #[(.ref a1), (.int p2), (.int p3), (.int p4)] 5)) t := fun t k => ac3 t (by
      show Steps p.tables e below (T2.setTop (mkF m 4 #[.val (.ref a1), .val (.int p2), .val (.int p3), .val (.int p4), .unset] [(.int (0 : Int32))])) _
      refine XS.aloadN X2.here hx rfl (hb hby d6_4) rfl rfl ?_
      exact k)
  obtain ⟨T5, X5, e5, st5⟩ := getF X2 hx hZ hown (host := "") (Or.inl (hw _ (List.mem_of_getElem? (i := 10) rfl))) Via.refl e2 F_0 (g := (mkF m 5 #[.val (.ref a1), .val (.int p2), .val (.int p3), .val (.int p4), .unset] [(.ref a1), (.int (0 : Int32))])) rfl rfl (hb hby d6_5)
  have ac6 : ∀ t, Steps p.tables e below (T5.setTop (mkF m 8 #[.val (.ref a1), .val (.int p2), .val (.int p3), .val (.int p4), .unset] [(.ref b1), (.int (0 : Int32))])) t → Steps p.tables e below (s₁.setTop (entryFrame m #[(.ref a1), (.int p2), (.int p3), (.int p4)] 5)) t := fun t k => ac4 t (st5 t k)
  obtain ⟨cl7, Ac7, hl7, hb7⟩ := V_0.len
  have ac8 : ∀ t, Steps p.tables e below (T5.setTop (mkF m 96 #[.val (.ref a1), .val (.int p2), .val (.int p3), .val (.int p4), .unset] [(.int p4), (.ref a1)])) t → Steps p.tables e below (s₁.setTop (entryFrame m #[(.ref a1), (.int p2), (.int p3), (.int p4)] 5)) t := fun t k => ac6 t (by
      show Steps p.tables e below (T5.setTop (mkF m 8 #[.val (.ref a1), .val (.int p2), .val (.int p3), .val (.int p4), .unset] [(.ref b1), (.int (0 : Int32))])) _
      refine X5.arraylength hx (by rw [e5]; exact Ac7.1) (State.isArrayOf_alike hZ.alike Ac7.2.1) (g := (mkF m 8 #[.val (.ref a1), .val (.int p2), .val (.int p3), .val (.int p4), .unset] [(.ref b1), (.int (0 : Int32))])) rfl rfl (hb hby d6_8) _ ?_
      rw [hl7]
      show Steps p.tables e below (T5.setTop (mkF m 9 #[.val (.ref a1), .val (.int p2), .val (.int p3), .val (.int p4), .unset] [(.int (Int32.ofNat 16)), (.int (0 : Int32))])) _
      refine XS.icmpYes X5.here hx rfl (pc0 := 9) (pc' := 94) rfl (hb hby d6_9) rfl (feq (by decide)).2 (by decide) (by decide) ?_
      show Steps p.tables e below (T5.setTop (mkF m 94 #[.val (.ref a1), .val (.int p2), .val (.int p3), .val (.int p4), .unset] [])) _
      refine XS.aloadN X5.here hx rfl (hb hby d6_94) rfl rfl ?_
      show Steps p.tables e below (T5.setTop (mkF m 95 #[.val (.ref a1), .val (.int p2), .val (.int p3), .val (.int p4), .unset] [(.ref a1)])) _
      refine XS.iloadN X5.here hx rfl (hb hby d6_95) rfl ?_
      exact k)
  obtain ⟨cq9, q9, q9'⟩ := E1.cell
  obtain ⟨_, _, ⟨T9, L9, k9, n9⟩, -, X9, ⟨Lc9, hQ9, l9, y9, z9⟩, st9⟩ := X5.privateBack hx (y := (⟨"com/example/termwright/termwright/TokenList", "makeRoom", "(I)V"⟩ : MethodName)) hown (mvT hZ (hw _ (List.mem_of_getElem? (i := 48) rfl))) (mvT hZ (hw _ (List.mem_of_getElem? (i := 49) rfl))) (own_selfsel hZ (hw _ (List.mem_of_getElem? (i := 1) rfl)) (hw _ (List.mem_of_getElem? (i := 50) rfl)) (hw _ (List.mem_of_getElem? (i := 49) rfl)) (by decide)) (Cond.privateMethod_at (mvP hZ (hw _ (List.mem_of_getElem? (i := 50) rfl)) (args := #[]))) (mvT hZ (hw _ (List.mem_of_getElem? (i := 51) rfl))) (by decide) (backOf (W := 0) (rm7n l Z a0 hw [] a1 p4 0 0 _ _ _ _ _ _ _ _ _ _ _ _ _  h0 n0 Z0 HB hr) hZ (hw _ (List.mem_of_getElem? (i := 51) rfl)) (hw _ (List.mem_of_getElem? (i := 2) rfl)) (by decide) (by decide)) (g := (mkF m 96 #[.val (.ref a1), .val (.int p2), .val (.int p3), .val (.int p4), .unset] [(.int p4), (.ref a1)])) rfl (by rw [hml]; rfl) (Steps.refl _) (a := a1) (by rw [e5]; exact q9) q9' (argsL := [(.int p4)]) (rest := []) (lenOf pd_4 rfl) rfl (by show 2 * 0 + _ ≤ _; exact Nat.le_of_eq rfl) (hb hby d6_96) (fun _ _ => ⟨rfl, e5, (by decide : 0 + 0 ≤ _), (by decide : 0 + 0 ≤ _)⟩)
  dsimp only [Pt.U, Pt.locs, Pt.cells, Pt.slots] at X9 l9 y9 z9 st9 hQ9
  subst l9 y9 z9
  obtain ⟨rfl, N9q, Qe9⟩ := hQ9
  have N9 := Fr.app N0 N9q
  have ac10 : ∀ t, Steps p.tables e below (T9.setTop (mkF m 99 #[.val (.ref a1), .val (.int p2), .val (.int p3), .val (.int p4), .unset] [])) t → Steps p.tables e below (s₁.setTop (entryFrame m #[(.ref a1), (.int p2), (.int p3), (.int p4)] 5)) t := fun t k => ac8 t (st9.trans k)
  have ac11 : ∀ t, Steps p.tables e below (T9.setTop (mkF m 100 #[.val (.ref a1), .val (.int p2), .val (.int p3), .val (.int p4), .unset] [(.ref a1)])) t → Steps p.tables e below (s₁.setTop (entryFrame m #[(.ref a1), (.int p2), (.int p3), (.int p4)] 5)) t := fun t k => ac10 t (by
      show Steps p.tables e below (T9.setTop (mkF m 99 #[.val (.ref a1), .val (.int p2), .val (.int p3), .val (.int p4), .unset] [])) _
      refine XS.aloadN X9.here hx rfl (hb hby d6_99) rfl rfl ?_
      exact k)
  obtain ⟨T12, X12, e12, st12⟩ := getF X9 hx hZ hown (host := "") (Or.inl (hw _ (List.mem_of_getElem? (i := 10) rfl))) Via.refl Qe9 F_0 (g := (mkF m 100 #[.val (.ref a1), .val (.int p2), .val (.int p3), .val (.int p4), .unset] [(.ref a1)])) rfl rfl (hb hby d6_100)
  have ac13 : ∀ t, Steps p.tables e below (T12.setTop (mkF m 103 #[.val (.ref a1), .val (.int p2), .val (.int p3), .val (.int p4), .unset] [(.ref b1)])) t → Steps p.tables e below (s₁.setTop (entryFrame m #[(.ref a1), (.int p2), (.int p3), (.int p4)] 5)) t := fun t k => ac11 t (st12 t k)
  have ac14 : ∀ t, Steps p.tables e below (T12.setTop (mkF m 104 #[.val (.ref a1), .val (.int p2), .val (.int p3), .val (.int p4), .unset] [(.ref a1), (.ref b1)])) t → Steps p.tables e below (s₁.setTop (entryFrame m #[(.ref a1), (.int p2), (.int p3), (.int p4)] 5)) t := fun t k => ac13 t (by
      show Steps p.tables e below (T12.setTop (mkF m 103 #[.val (.ref a1), .val (.int p2), .val (.int p3), .val (.int p4), .unset] [(.ref b1)])) _
      refine XS.aloadN X12.here hx rfl (hb hby d6_103) rfl rfl ?_
      exact k)
  obtain ⟨T15, X15, e15, st15⟩ := getF X12 hx hZ hown (host := "") (Or.inl (hw _ (List.mem_of_getElem? (i := 33) rfl))) Via.refl e12 F_sz (g := (mkF m 104 #[.val (.ref a1), .val (.int p2), .val (.int p3), .val (.int p4), .unset] [(.ref a1), (.ref b1)])) rfl rfl (hb hby d6_104)
  have ac16 : ∀ t, Steps p.tables e below (T15.setTop (mkF m 107 #[.val (.ref a1), .val (.int p2), .val (.int p3), .val (.int p4), .unset] [(.int (0 : Int32)), (.ref b1)])) t → Steps p.tables e below (s₁.setTop (entryFrame m #[(.ref a1), (.int p2), (.int p3), (.int p4)] 5)) t := fun t k => ac14 t (st15 t k)
  have ac17 : ∀ t, Steps p.tables e below (T15.setTop (mkF m 108 #[.val (.ref a1), .val (.int p2), .val (.int p3), .val (.int p4), .unset] [(.int p2), (.int (0 : Int32)), (.ref b1)])) t → Steps p.tables e below (s₁.setTop (entryFrame m #[(.ref a1), (.int p2), (.int p3), (.int p4)] 5)) t := fun t k => ac16 t (by
      show Steps p.tables e below (T15.setTop (mkF m 107 #[.val (.ref a1), .val (.int p2), .val (.int p3), .val (.int p4), .unset] [(.int (0 : Int32)), (.ref b1)])) _
      refine XS.iloadN X15.here hx rfl (hb hby d6_107) rfl ?_
      exact k)
  obtain ⟨cl18, Ac18, hin18, -⟩ := V_0.at (j := (0 : Int32)) (i := 0) rfl (by decide)
  obtain ⟨T18, h18, X18, e18, W18, st18⟩ := stI X15 hx hZ e15 Ac18 (j := (0 : Int32)) hin18 (g := (mkF m 108 #[.val (.ref a1), .val (.int p2), .val (.int p3), .val (.int p4), .unset] [(.int p2), (.int (0 : Int32)), (.ref b1)])) rfl rfl (hb hby d6_108)
  have V18 := V_0.set (i := 0) rfl W18 rfl
  have Ef19 := E1.wr W18
  have Ff20 := F_sz.other W18 (Or.inl ne_a1_b1)
  have Ff21 := F_us.other W18 (Or.inl ne_a1_b1)
  have Ff22 := F_0.other W18 (Or.inl ne_a1_b1)
  have Ff23 := F_1.other W18 (Or.inl ne_a1_b1)
  have Vf24 := V_1.other W18 (Ne.symm ne_b1_b2)
  have Ff25 := F_2.other W18 (Or.inl ne_a1_b1)
  have Vf26 := V_2.other W18 (Ne.symm ne_b1_b3)
  have Ff27 := F_3.other W18 (Or.inl ne_a1_b1)
  have Vf28 := V_3.other W18 (Ne.symm ne_b1_b4)
  have Ff29 := F_4.other W18 (Or.inl ne_a1_b1)
  have Vf30 := V_4.other W18 (Ne.symm ne_b1_b5)
  have Ff31 := F_tb.other W18 (Or.inl ne_a1_b1)
  have Vf32 := V_5.other W18 (Ne.symm ne_b1_bB)
  have N18 := Fr.snoc X18 N9 g_b1
  have Z18 : n0 ≤ h18.size := Nat.le_trans Z0 (Keep.of_wr W18).1
  have Kp33 : Keep h0 h18 [a1, b1, b2, b3, b4, b5] := (Keep.refl h0 [a1, b1, b2, b3, b4, b5]).wr W18 (Or.inl (List.mem_of_getElem? (i := 1) rfl))
  have ac34 : ∀ t, Steps p.tables e below (T18.setTop (mkF m 109 #[.val (.ref a1), .val (.int p2), .val (.int p3), .val (.int p4), .unset] [])) t → Steps p.tables e below (s₁.setTop (entryFrame m #[(.ref a1), (.int p2), (.int p3), (.int p4)] 5)) t := fun t k => ac17 t (st18 t k)
  have ac35 : ∀ t, Steps p.tables e below (T18.setTop (mkF m 110 #[.val (.ref a1), .val (.int p2), .val (.int p3), .val (.int p4), .unset] [(.ref a1)])) t → Steps p.tables e below (s₁.setTop (entryFrame m #[(.ref a1), (.int p2), (.int p3), (.int p4)] 5)) t := fun t k => ac34 t (by
      show Steps p.tables e below (T18.setTop (mkF m 109 #[.val (.ref a1), .val (.int p2), .val (.int p3), .val (.int p4), .unset] [])) _
      refine XS.aloadN X18.here hx rfl (hb hby d6_109) rfl rfl ?_
      exact k)
  obtain ⟨T36, X36, e36, st36⟩ := getF X18 hx hZ hown (host := "") (Or.inl (hw _ (List.mem_of_getElem? (i := 12) rfl))) Via.refl e18 Ff23 (g := (mkF m 110 #[.val (.ref a1), .val (.int p2), .val (.int p3), .val (.int p4), .unset] [(.ref a1)])) rfl rfl (hb hby d6_110)
  have ac37 : ∀ t, Steps p.tables e below (T36.setTop (mkF m 113 #[.val (.ref a1), .val (.int p2), .val (.int p3), .val (.int p4), .unset] [(.ref b2)])) t → Steps p.tables e below (s₁.setTop (entryFrame m #[(.ref a1), (.int p2), (.int p3), (.int p4)] 5)) t := fun t k => ac35 t (st36 t k)
  have ac38 : ∀ t, Steps p.tables e below (T36.setTop (mkF m 114 #[.val (.ref a1), .val (.int p2), .val (.int p3), .val (.int p4), .unset] [(.ref a1), (.ref b2)])) t → Steps p.tables e below (s₁.setTop (entryFrame m #[(.ref a1), (.int p2), (.int p3), (.int p4)] 5)) t := fun t k => ac37 t (by
      show Steps p.tables e below (T36.setTop (mkF m 113 #[.val (.ref a1), .val (.int p2), .val (.int p3), .val (.int p4), .unset] [(.ref b2)])) _
      refine XS.aloadN X36.here hx rfl (hb hby d6_113) rfl rfl ?_
      exact k)
  obtain ⟨T39, X39, e39, st39⟩ := getF X36 hx hZ hown (host := "") (Or.inl (hw _ (List.mem_of_getElem? (i := 33) rfl))) Via.refl e36 Ff20 (g := (mkF m 114 #[.val (.ref a1), .val (.int p2), .val (.int p3), .val (.int p4), .unset] [(.ref a1), (.ref b2)])) rfl rfl (hb hby d6_114)
  have ac40 : ∀ t, Steps p.tables e below (T39.setTop (mkF m 117 #[.val (.ref a1), .val (.int p2), .val (.int p3), .val (.int p4), .unset] [(.int (0 : Int32)), (.ref b2)])) t → Steps p.tables e below (s₁.setTop (entryFrame m #[(.ref a1), (.int p2), (.int p3), (.int p4)] 5)) t := fun t k => ac38 t (st39 t k)
  have ac41 : ∀ t, Steps p.tables e below (T39.setTop (mkF m 118 #[.val (.ref a1), .val (.int p2), .val (.int p3), .val (.int p4), .unset] [(.int p3), (.int (0 : Int32)), (.ref b2)])) t → Steps p.tables e below (s₁.setTop (entryFrame m #[(.ref a1), (.int p2), (.int p3), (.int p4)] 5)) t := fun t k => ac40 t (by
      show Steps p.tables e below (T39.setTop (mkF m 117 #[.val (.ref a1), .val (.int p2), .val (.int p3), .val (.int p4), .unset] [(.int (0 : Int32)), (.ref b2)])) _
      refine XS.iloadN X39.here hx rfl (hb hby d6_117) rfl ?_
      exact k)
  obtain ⟨cl42, Ac42, hin42, -⟩ := Vf24.at (j := (0 : Int32)) (i := 0) rfl (by decide)
  obtain ⟨T42, h42, X42, e42, W42, st42⟩ := stI X39 hx hZ e39 Ac42 (j := (0 : Int32)) hin42 (g := (mkF m 118 #[.val (.ref a1), .val (.int p2), .val (.int p3), .val (.int p4), .unset] [(.int p3), (.int (0 : Int32)), (.ref b2)])) rfl rfl (hb hby d6_118)
  have V42 := Vf24.set (i := 0) rfl W42 rfl
  have Ef43 := Ef19.wr W42
  have Ff44 := Ff20.other W42 (Or.inl ne_a1_b2)
  have Ff45 := Ff21.other W42 (Or.inl ne_a1_b2)
  have Ff46 := Ff22.other W42 (Or.inl ne_a1_b2)
  have Ff47 := Ff23.other W42 (Or.inl ne_a1_b2)
  have Ff48 := Ff25.other W42 (Or.inl ne_a1_b2)
  have Vf49 := Vf26.other W42 (Ne.symm ne_b2_b3)
  have Ff50 := Ff27.other W42 (Or.inl ne_a1_b2)
  have Vf51 := Vf28.other W42 (Ne.symm ne_b2_b4)
  have Ff52 := Ff29.other W42 (Or.inl ne_a1_b2)
  have Vf53 := Vf30.other W42 (Ne.symm ne_b2_b5)
  have Ff54 := Ff31.other W42 (Or.inl ne_a1_b2)
  have Vf55 := Vf32.other W42 (Ne.symm ne_b2_bB)
  have Vf56 := V18.other W42 ne_b1_b2
  have N42 := Fr.snoc X42 N18 g_b2
  have Z42 : n0 ≤ h42.size := Nat.le_trans Z18 (Keep.of_wr W42).1
  have Kp57 : Keep h0 h42 [a1, b1, b2, b3, b4, b5] := Kp33.wr W42 (Or.inl (List.mem_of_getElem? (i := 2) rfl))
  have ac58 : ∀ t, Steps p.tables e below (T42.setTop (mkF m 119 #[.val (.ref a1), .val (.int p2), .val (.int p3), .val (.int p4), .unset] [])) t → Steps p.tables e below (s₁.setTop (entryFrame m #[(.ref a1), (.int p2), (.int p3), (.int p4)] 5)) t := fun t k => ac41 t (st42 t k)
  have ac59 : ∀ t, Steps p.tables e below (T42.setTop (mkF m 120 #[.val (.ref a1), .val (.int p2), .val (.int p3), .val (.int p4), .unset] [(.ref a1)])) t → Steps p.tables e below (s₁.setTop (entryFrame m #[(.ref a1), (.int p2), (.int p3), (.int p4)] 5)) t := fun t k => ac58 t (by
      show Steps p.tables e below (T42.setTop (mkF m 119 #[.val (.ref a1), .val (.int p2), .val (.int p3), .val (.int p4), .unset] [])) _
      refine XS.aloadN X42.here hx rfl (hb hby d6_119) rfl rfl ?_
      exact k)
  obtain ⟨T60, X60, e60, st60⟩ := getF X42 hx hZ hown (host := "") (Or.inl (hw _ (List.mem_of_getElem? (i := 14) rfl))) Via.refl e42 Ff48 (g := (mkF m 120 #[.val (.ref a1), .val (.int p2), .val (.int p3), .val (.int p4), .unset] [(.ref a1)])) rfl rfl (hb hby d6_120)
  have ac61 : ∀ t, Steps p.tables e below (T60.setTop (mkF m 123 #[.val (.ref a1), .val (.int p2), .val (.int p3), .val (.int p4), .unset] [(.ref b3)])) t → Steps p.tables e below (s₁.setTop (entryFrame m #[(.ref a1), (.int p2), (.int p3), (.int p4)] 5)) t := fun t k => ac59 t (st60 t k)
  have ac62 : ∀ t, Steps p.tables e below (T60.setTop (mkF m 124 #[.val (.ref a1), .val (.int p2), .val (.int p3), .val (.int p4), .unset] [(.ref a1), (.ref b3)])) t → Steps p.tables e below (s₁.setTop (entryFrame m #[(.ref a1), (.int p2), (.int p3), (.int p4)] 5)) t := fun t k => ac61 t (by
      show Steps p.tables e below (T60.setTop (mkF m 123 #[.val (.ref a1), .val (.int p2), .val (.int p3), .val (.int p4), .unset] [(.ref b3)])) _
      refine XS.aloadN X60.here hx rfl (hb hby d6_123) rfl rfl ?_
      exact k)
  obtain ⟨T63, X63, e63, st63⟩ := getF X60 hx hZ hown (host := "") (Or.inl (hw _ (List.mem_of_getElem? (i := 33) rfl))) Via.refl e60 Ff44 (g := (mkF m 124 #[.val (.ref a1), .val (.int p2), .val (.int p3), .val (.int p4), .unset] [(.ref a1), (.ref b3)])) rfl rfl (hb hby d6_124)
  have ac64 : ∀ t, Steps p.tables e below (T63.setTop (mkF m 127 #[.val (.ref a1), .val (.int p2), .val (.int p3), .val (.int p4), .unset] [(.int (0 : Int32)), (.ref b3)])) t → Steps p.tables e below (s₁.setTop (entryFrame m #[(.ref a1), (.int p2), (.int p3), (.int p4)] 5)) t := fun t k => ac62 t (st63 t k)
  have ac65 : ∀ t, Steps p.tables e below (T63.setTop (mkF m 128 #[.val (.ref a1), .val (.int p2), .val (.int p3), .val (.int p4), .unset] [(.ref a1), (.int (0 : Int32)), (.ref b3)])) t → Steps p.tables e below (s₁.setTop (entryFrame m #[(.ref a1), (.int p2), (.int p3), (.int p4)] 5)) t := fun t k => ac64 t (by
      show Steps p.tables e below (T63.setTop (mkF m 127 #[.val (.ref a1), .val (.int p2), .val (.int p3), .val (.int p4), .unset] [(.int (0 : Int32)), (.ref b3)])) _
      refine XS.aloadN X63.here hx rfl (hb hby d6_127) rfl rfl ?_
      exact k)
  obtain ⟨T66, X66, e66, st66⟩ := getF X63 hx hZ hown (host := "") (Or.inl (hw _ (List.mem_of_getElem? (i := 35) rfl))) Via.refl e63 Ff45 (g := (mkF m 128 #[.val (.ref a1), .val (.int p2), .val (.int p3), .val (.int p4), .unset] [(.ref a1), (.int (0 : Int32)), (.ref b3)])) rfl rfl (hb hby d6_128)
  have ac67 : ∀ t, Steps p.tables e below (T66.setTop (mkF m 131 #[.val (.ref a1), .val (.int p2), .val (.int p3), .val (.int p4), .unset] [(.int (0 : Int32)), (.int (0 : Int32)), (.ref b3)])) t → Steps p.tables e below (s₁.setTop (entryFrame m #[(.ref a1), (.int p2), (.int p3), (.int p4)] 5)) t := fun t k => ac65 t (st66 t k)
  obtain ⟨cl68, Ac68, hin68, -⟩ := Vf49.at (j := (0 : Int32)) (i := 0) rfl (by decide)
  obtain ⟨T68, h68, X68, e68, W68, st68⟩ := stI X66 hx hZ e66 Ac68 (j := (0 : Int32)) hin68 (g := (mkF m 131 #[.val (.ref a1), .val (.int p2), .val (.int p3), .val (.int p4), .unset] [(.int (0 : Int32)), (.int (0 : Int32)), (.ref b3)])) rfl rfl (hb hby d6_131)
  have V68 := Vf49.set (i := 0) rfl W68 rfl
  have Ef69 := Ef43.wr W68
  have Ff70 := Ff44.other W68 (Or.inl ne_a1_b3)
  have Ff71 := Ff45.other W68 (Or.inl ne_a1_b3)
  have Ff72 := Ff46.other W68 (Or.inl ne_a1_b3)
  have Ff73 := Ff47.other W68 (Or.inl ne_a1_b3)
  have Ff74 := Ff48.other W68 (Or.inl ne_a1_b3)
  have Ff75 := Ff50.other W68 (Or.inl ne_a1_b3)
  have Vf76 := Vf51.other W68 (Ne.symm ne_b3_b4)
  have Ff77 := Ff52.other W68 (Or.inl ne_a1_b3)
  have Vf78 := Vf53.other W68 (Ne.symm ne_b3_b5)
  have Ff79 := Ff54.other W68 (Or.inl ne_a1_b3)
  have Vf80 := Vf55.other W68 (Ne.symm ne_b3_bB)
  have Vf81 := Vf56.other W68 ne_b1_b3
  have Vf82 := V42.other W68 ne_b2_b3
  have N68 := Fr.snoc X68 N42 g_b3
  have Z68 : n0 ≤ h68.size := Nat.le_trans Z42 (Keep.of_wr W68).1
  have Kp83 : Keep h0 h68 [a1, b1, b2, b3, b4, b5] := Kp57.wr W68 (Or.inl (List.mem_of_getElem? (i := 3) rfl))
  have ac84 : ∀ t, Steps p.tables e below (T68.setTop (mkF m 132 #[.val (.ref a1), .val (.int p2), .val (.int p3), .val (.int p4), .unset] [])) t → Steps p.tables e below (s₁.setTop (entryFrame m #[(.ref a1), (.int p2), (.int p3), (.int p4)] 5)) t := fun t k => ac67 t (st68 t k)
  have ac85 : ∀ t, Steps p.tables e below (T68.setTop (mkF m 133 #[.val (.ref a1), .val (.int p2), .val (.int p3), .val (.int p4), .unset] [(.ref a1)])) t → Steps p.tables e below (s₁.setTop (entryFrame m #[(.ref a1), (.int p2), (.int p3), (.int p4)] 5)) t := fun t k => ac84 t (by
      show Steps p.tables e below (T68.setTop (mkF m 132 #[.val (.ref a1), .val (.int p2), .val (.int p3), .val (.int p4), .unset] [])) _
      refine XS.aloadN X68.here hx rfl (hb hby d6_132) rfl rfl ?_
      exact k)
  obtain ⟨T86, X86, e86, st86⟩ := getF X68 hx hZ hown (host := "") (Or.inl (hw _ (List.mem_of_getElem? (i := 16) rfl))) Via.refl e68 Ff75 (g := (mkF m 133 #[.val (.ref a1), .val (.int p2), .val (.int p3), .val (.int p4), .unset] [(.ref a1)])) rfl rfl (hb hby d6_133)
  have ac87 : ∀ t, Steps p.tables e below (T86.setTop (mkF m 136 #[.val (.ref a1), .val (.int p2), .val (.int p3), .val (.int p4), .unset] [(.ref b4)])) t → Steps p.tables e below (s₁.setTop (entryFrame m #[(.ref a1), (.int p2), (.int p3), (.int p4)] 5)) t := fun t k => ac85 t (st86 t k)
  have ac88 : ∀ t, Steps p.tables e below (T86.setTop (mkF m 137 #[.val (.ref a1), .val (.int p2), .val (.int p3), .val (.int p4), .unset] [(.ref a1), (.ref b4)])) t → Steps p.tables e below (s₁.setTop (entryFrame m #[(.ref a1), (.int p2), (.int p3), (.int p4)] 5)) t := fun t k => ac87 t (by
      show Steps p.tables e below (T86.setTop (mkF m 136 #[.val (.ref a1), .val (.int p2), .val (.int p3), .val (.int p4), .unset] [(.ref b4)])) _
      refine XS.aloadN X86.here hx rfl (hb hby d6_136) rfl rfl ?_
      exact k)
  obtain ⟨T89, X89, e89, st89⟩ := getF X86 hx hZ hown (host := "") (Or.inl (hw _ (List.mem_of_getElem? (i := 33) rfl))) Via.refl e86 Ff70 (g := (mkF m 137 #[.val (.ref a1), .val (.int p2), .val (.int p3), .val (.int p4), .unset] [(.ref a1), (.ref b4)])) rfl rfl (hb hby d6_137)
  have ac90 : ∀ t, Steps p.tables e below (T89.setTop (mkF m 140 #[.val (.ref a1), .val (.int p2), .val (.int p3), .val (.int p4), .unset] [(.int (0 : Int32)), (.ref b4)])) t → Steps p.tables e below (s₁.setTop (entryFrame m #[(.ref a1), (.int p2), (.int p3), (.int p4)] 5)) t := fun t k => ac88 t (st89 t k)
  have ac91 : ∀ t, Steps p.tables e below (T89.setTop (mkF m 141 #[.val (.ref a1), .val (.int p2), .val (.int p3), .val (.int p4), .unset] [(.ref a1), (.int (0 : Int32)), (.ref b4)])) t → Steps p.tables e below (s₁.setTop (entryFrame m #[(.ref a1), (.int p2), (.int p3), (.int p4)] 5)) t := fun t k => ac90 t (by
      show Steps p.tables e below (T89.setTop (mkF m 140 #[.val (.ref a1), .val (.int p2), .val (.int p3), .val (.int p4), .unset] [(.int (0 : Int32)), (.ref b4)])) _
      refine XS.aloadN X89.here hx rfl (hb hby d6_140) rfl rfl ?_
      exact k)
  obtain ⟨T92, X92, e92, st92⟩ := getF X89 hx hZ hown (host := "") (Or.inl (hw _ (List.mem_of_getElem? (i := 35) rfl))) Via.refl e89 Ff71 (g := (mkF m 141 #[.val (.ref a1), .val (.int p2), .val (.int p3), .val (.int p4), .unset] [(.ref a1), (.int (0 : Int32)), (.ref b4)])) rfl rfl (hb hby d6_141)
  have ac93 : ∀ t, Steps p.tables e below (T92.setTop (mkF m 144 #[.val (.ref a1), .val (.int p2), .val (.int p3), .val (.int p4), .unset] [(.int (0 : Int32)), (.int (0 : Int32)), (.ref b4)])) t → Steps p.tables e below (s₁.setTop (entryFrame m #[(.ref a1), (.int p2), (.int p3), (.int p4)] 5)) t := fun t k => ac91 t (st92 t k)
  obtain ⟨cl94, Ac94, hin94, -⟩ := Vf76.at (j := (0 : Int32)) (i := 0) rfl (by decide)
  obtain ⟨T94, h94, X94, e94, W94, st94⟩ := stI X92 hx hZ e92 Ac94 (j := (0 : Int32)) hin94 (g := (mkF m 144 #[.val (.ref a1), .val (.int p2), .val (.int p3), .val (.int p4), .unset] [(.int (0 : Int32)), (.int (0 : Int32)), (.ref b4)])) rfl rfl (hb hby d6_144)
  have V94 := Vf76.set (i := 0) rfl W94 rfl
  have Ef95 := Ef69.wr W94
  have Ff96 := Ff70.other W94 (Or.inl ne_a1_b4)
  have Ff97 := Ff71.other W94 (Or.inl ne_a1_b4)
  have Ff98 := Ff72.other W94 (Or.inl ne_a1_b4)
  have Ff99 := Ff73.other W94 (Or.inl ne_a1_b4)
  have Ff100 := Ff74.other W94 (Or.inl ne_a1_b4)
  have Ff101 := Ff75.other W94 (Or.inl ne_a1_b4)
  have Ff102 := Ff77.other W94 (Or.inl ne_a1_b4)
  have Vf103 := Vf78.other W94 (Ne.symm ne_b4_b5)
  have Ff104 := Ff79.other W94 (Or.inl ne_a1_b4)
  have Vf105 := Vf80.other W94 (Ne.symm ne_b4_bB)
  have Vf106 := Vf81.other W94 ne_b1_b4
  have Vf107 := Vf82.other W94 ne_b2_b4
  have Vf108 := V68.other W94 ne_b3_b4
  have N94 := Fr.snoc X94 N68 g_b4
  have Z94 : n0 ≤ h94.size := Nat.le_trans Z68 (Keep.of_wr W94).1
  have Kp109 : Keep h0 h94 [a1, b1, b2, b3, b4, b5] := Kp83.wr W94 (Or.inl (List.mem_of_getElem? (i := 4) rfl))
  have ac110 : ∀ t, Steps p.tables e below (T94.setTop (mkF m 145 #[.val (.ref a1), .val (.int p2), .val (.int p3), .val (.int p4), .unset] [])) t → Steps p.tables e below (s₁.setTop (entryFrame m #[(.ref a1), (.int p2), (.int p3), (.int p4)] 5)) t := fun t k => ac93 t (st94 t k)
  have ac111 : ∀ t, Steps p.tables e below (T94.setTop (mkF m 146 #[.val (.ref a1), .val (.int p2), .val (.int p3), .val (.int p4), .unset] [(.ref a1)])) t → Steps p.tables e below (s₁.setTop (entryFrame m #[(.ref a1), (.int p2), (.int p3), (.int p4)] 5)) t := fun t k => ac110 t (by
      show Steps p.tables e below (T94.setTop (mkF m 145 #[.val (.ref a1), .val (.int p2), .val (.int p3), .val (.int p4), .unset] [])) _
      refine XS.aloadN X94.here hx rfl (hb hby d6_145) rfl rfl ?_
      exact k)
  obtain ⟨T112, X112, e112, st112⟩ := getF X94 hx hZ hown (host := "") (Or.inl (hw _ (List.mem_of_getElem? (i := 18) rfl))) Via.refl e94 Ff102 (g := (mkF m 146 #[.val (.ref a1), .val (.int p2), .val (.int p3), .val (.int p4), .unset] [(.ref a1)])) rfl rfl (hb hby d6_146)
  have ac113 : ∀ t, Steps p.tables e below (T112.setTop (mkF m 149 #[.val (.ref a1), .val (.int p2), .val (.int p3), .val (.int p4), .unset] [(.ref b5)])) t → Steps p.tables e below (s₁.setTop (entryFrame m #[(.ref a1), (.int p2), (.int p3), (.int p4)] 5)) t := fun t k => ac111 t (st112 t k)
  have ac114 : ∀ t, Steps p.tables e below (T112.setTop (mkF m 150 #[.val (.ref a1), .val (.int p2), .val (.int p3), .val (.int p4), .unset] [(.ref a1), (.ref b5)])) t → Steps p.tables e below (s₁.setTop (entryFrame m #[(.ref a1), (.int p2), (.int p3), (.int p4)] 5)) t := fun t k => ac113 t (by
      show Steps p.tables e below (T112.setTop (mkF m 149 #[.val (.ref a1), .val (.int p2), .val (.int p3), .val (.int p4), .unset] [(.ref b5)])) _
      refine XS.aloadN X112.here hx rfl (hb hby d6_149) rfl rfl ?_
      exact k)
  obtain ⟨T115, X115, e115, st115⟩ := getF X112 hx hZ hown (host := "") (Or.inl (hw _ (List.mem_of_getElem? (i := 33) rfl))) Via.refl e112 Ff96 (g := (mkF m 150 #[.val (.ref a1), .val (.int p2), .val (.int p3), .val (.int p4), .unset] [(.ref a1), (.ref b5)])) rfl rfl (hb hby d6_150)
  have ac116 : ∀ t, Steps p.tables e below (T115.setTop (mkF m 153 #[.val (.ref a1), .val (.int p2), .val (.int p3), .val (.int p4), .unset] [(.int (0 : Int32)), (.ref b5)])) t → Steps p.tables e below (s₁.setTop (entryFrame m #[(.ref a1), (.int p2), (.int p3), (.int p4)] 5)) t := fun t k => ac114 t (st115 t k)
  have ac117 : ∀ t, Steps p.tables e below (T115.setTop (mkF m 154 #[.val (.ref a1), .val (.int p2), .val (.int p3), .val (.int p4), .unset] [(.int (0 : Int32)), (.int (0 : Int32)), (.ref b5)])) t → Steps p.tables e below (s₁.setTop (entryFrame m #[(.ref a1), (.int p2), (.int p3), (.int p4)] 5)) t := fun t k => ac116 t (by
      show Steps p.tables e below (T115.setTop (mkF m 153 #[.val (.ref a1), .val (.int p2), .val (.int p3), .val (.int p4), .unset] [(.int (0 : Int32)), (.ref b5)])) _
      refine XS.iconst X115.here hx rfl (hb hby d6_153) ?_
      exact k)
  obtain ⟨cl118, Ac118, hin118, -⟩ := Vf103.at (j := (0 : Int32)) (i := 0) rfl (by decide)
  obtain ⟨T118, h118, X118, e118, W118, st118⟩ := stI X115 hx hZ e115 Ac118 (j := (0 : Int32)) hin118 (g := (mkF m 154 #[.val (.ref a1), .val (.int p2), .val (.int p3), .val (.int p4), .unset] [(.int (0 : Int32)), (.int (0 : Int32)), (.ref b5)])) rfl rfl (hb hby d6_154)
  have V118 := Vf103.set (i := 0) rfl W118 rfl
  have Ef119 := Ef95.wr W118
  have Ff120 := Ff96.other W118 (Or.inl ne_a1_b5)
  have Ff121 := Ff97.other W118 (Or.inl ne_a1_b5)
  have Ff122 := Ff98.other W118 (Or.inl ne_a1_b5)
  have Ff123 := Ff99.other W118 (Or.inl ne_a1_b5)
  have Ff124 := Ff100.other W118 (Or.inl ne_a1_b5)
  have Ff125 := Ff101.other W118 (Or.inl ne_a1_b5)
  have Ff126 := Ff102.other W118 (Or.inl ne_a1_b5)
  have Ff127 := Ff104.other W118 (Or.inl ne_a1_b5)
  have Vf128 := Vf105.other W118 (Ne.symm ne_b5_bB)
  have Vf129 := Vf106.other W118 ne_b1_b5
  have Vf130 := Vf107.other W118 ne_b2_b5
  have Vf131 := Vf108.other W118 ne_b3_b5
  have Vf132 := V94.other W118 ne_b4_b5
  have N118 := Fr.snoc X118 N94 g_b5
  have Z118 : n0 ≤ h118.size := Nat.le_trans Z94 (Keep.of_wr W118).1
  have Kp133 : Keep h0 h118 [a1, b1, b2, b3, b4, b5] := Kp109.wr W118 (Or.inl (List.mem_of_getElem? (i := 5) rfl))
  have ac134 : ∀ t, Steps p.tables e below (T118.setTop (mkF m 155 #[.val (.ref a1), .val (.int p2), .val (.int p3), .val (.int p4), .unset] [])) t → Steps p.tables e below (s₁.setTop (entryFrame m #[(.ref a1), (.int p2), (.int p3), (.int p4)] 5)) t := fun t k => ac117 t (st118 t k)
  have ac135 : ∀ t, Steps p.tables e below (T118.setTop (mkF m 157 #[.val (.ref a1), .val (.int p2), .val (.int p3), .val (.int p4), .unset] [(.ref a1), (.ref a1)])) t → Steps p.tables e below (s₁.setTop (entryFrame m #[(.ref a1), (.int p2), (.int p3), (.int p4)] 5)) t := fun t k => ac134 t (by
      show Steps p.tables e below (T118.setTop (mkF m 155 #[.val (.ref a1), .val (.int p2), .val (.int p3), .val (.int p4), .unset] [])) _
      refine XS.aloadN X118.here hx rfl (hb hby d6_155) rfl rfl ?_
      show Steps p.tables e below (T118.setTop (mkF m 156 #[.val (.ref a1), .val (.int p2), .val (.int p3), .val (.int p4), .unset] [(.ref a1)])) _
      refine XS.dup X118.here hx rfl (hb hby d6_156) rfl rfl ?_
      exact k)
  obtain ⟨T136, X136, e136, st136⟩ := getF X118 hx hZ hown (host := "") (Or.inl (hw _ (List.mem_of_getElem? (i := 33) rfl))) Via.refl e118 Ff120 (g := (mkF m 157 #[.val (.ref a1), .val (.int p2), .val (.int p3), .val (.int p4), .unset] [(.ref a1), (.ref a1)])) rfl rfl (hb hby d6_157)
  have ac137 : ∀ t, Steps p.tables e below (T136.setTop (mkF m 160 #[.val (.ref a1), .val (.int p2), .val (.int p3), .val (.int p4), .unset] [(.int (0 : Int32)), (.ref a1)])) t → Steps p.tables e below (s₁.setTop (entryFrame m #[(.ref a1), (.int p2), (.int p3), (.int p4)] 5)) t := fun t k => ac135 t (st136 t k)
  have ac138 : ∀ t, Steps p.tables e below (T136.setTop (mkF m 162 #[.val (.ref a1), .val (.int p2), .val (.int p3), .val (.int p4), .unset] [(.int ((0 : Int32) + (1 : Int32))), (.ref a1)])) t → Steps p.tables e below (s₁.setTop (entryFrame m #[(.ref a1), (.int p2), (.int p3), (.int p4)] 5)) t := fun t k => ac137 t (by
      show Steps p.tables e below (T136.setTop (mkF m 160 #[.val (.ref a1), .val (.int p2), .val (.int p3), .val (.int p4), .unset] [(.int (0 : Int32)), (.ref a1)])) _
      refine XS.iconst X136.here hx rfl (hb hby d6_160) ?_
      show Steps p.tables e below (T136.setTop (mkF m 161 #[.val (.ref a1), .val (.int p2), .val (.int p3), .val (.int p4), .unset] [(.int (1 : Int32)), (.int (0 : Int32)), (.ref a1)])) _
      refine XS.iadd X136.here hx rfl (hb hby d6_161) rfl ?_
      exact k)
  obtain ⟨T139, h139, X139, e139, W139, st139⟩ := putF X136 hx hZ hown (host := "") (Or.inl (hw _ (List.mem_of_getElem? (i := 33) rfl))) Via.refl e136 Ff120 Ef119 (Or.inl (hw _ (List.mem_of_getElem? (i := 34) rfl))) (hw _ (List.mem_of_getElem? (i := 1) rfl)) (ty := .int) (by decide) rfl rfl (g := (mkF m 162 #[.val (.ref a1), .val (.int p2), .val (.int p3), .val (.int p4), .unset] [(.int ((0 : Int32) + (1 : Int32))), (.ref a1)])) rfl rfl (hb hby d6_162)
  have Fw139 := Ff120.same W139
  have Ef140 := Ef119.wr W139
  have Ff141 := Ff121.other W139 (Or.inr (slot_ne (Or.inl (hw _ (List.mem_of_getElem? (i := 36) rfl))) (Or.inl (hw _ (List.mem_of_getElem? (i := 34) rfl))) (by decide) (t := .int) (t' := .int) (by decide) (by decide)))
  have Ff142 := Ff122.other W139 (Or.inr (slot_ne (Or.inl (hw _ (List.mem_of_getElem? (i := 11) rfl))) (Or.inl (hw _ (List.mem_of_getElem? (i := 34) rfl))) (by decide) (t := (.array .int)) (t' := .int) (by decide) (by decide)))
  have Ff143 := Ff123.other W139 (Or.inr (slot_ne (Or.inl (hw _ (List.mem_of_getElem? (i := 13) rfl))) (Or.inl (hw _ (List.mem_of_getElem? (i := 34) rfl))) (by decide) (t := (.array .int)) (t' := .int) (by decide) (by decide)))
  have Ff144 := Ff124.other W139 (Or.inr (slot_ne (Or.inl (hw _ (List.mem_of_getElem? (i := 15) rfl))) (Or.inl (hw _ (List.mem_of_getElem? (i := 34) rfl))) (by decide) (t := (.array .int)) (t' := .int) (by decide) (by decide)))
  have Ff145 := Ff125.other W139 (Or.inr (slot_ne (Or.inl (hw _ (List.mem_of_getElem? (i := 17) rfl))) (Or.inl (hw _ (List.mem_of_getElem? (i := 34) rfl))) (by decide) (t := (.array .int)) (t' := .int) (by decide) (by decide)))
  have Ff146 := Ff126.other W139 (Or.inr (slot_ne (Or.inl (hw _ (List.mem_of_getElem? (i := 19) rfl))) (Or.inl (hw _ (List.mem_of_getElem? (i := 34) rfl))) (by decide) (t := (.array .int)) (t' := .int) (by decide) (by decide)))
  have Ff147 := Ff127.other W139 (Or.inr (slot_ne (Or.inl (hw _ (List.mem_of_getElem? (i := 22) rfl))) (Or.inl (hw _ (List.mem_of_getElem? (i := 34) rfl))) (by decide) (t := (.array .byte)) (t' := .int) (by decide) (by decide)))
  have Vf148 := Vf128.other W139 (Ne.symm ne_a1_bB)
  have Vf149 := Vf129.other W139 (Ne.symm ne_a1_b1)
  have Vf150 := Vf130.other W139 (Ne.symm ne_a1_b2)
  have Vf151 := Vf131.other W139 (Ne.symm ne_a1_b3)
  have Vf152 := Vf132.other W139 (Ne.symm ne_a1_b4)
  have Vf153 := V118.other W139 (Ne.symm ne_a1_b5)
  have N139 := Fr.snoc X139 N118 g_a1
  have Z139 : n0 ≤ h139.size := Nat.le_trans Z118 (Keep.of_wr W139).1
  have Kp154 : Keep h0 h139 [a1, b1, b2, b3, b4, b5] := Kp133.wr W139 (Or.inl (List.mem_of_getElem? (i := 0) rfl))
  have ac155 : ∀ t, Steps p.tables e below (T139.setTop (mkF m 165 #[.val (.ref a1), .val (.int p2), .val (.int p3), .val (.int p4), .unset] [])) t → Steps p.tables e below (s₁.setTop (entryFrame m #[(.ref a1), (.int p2), (.int p3), (.int p4)] 5)) t := fun t k => ac138 t (st139 t k)
  have ac156 : ∀ t, Steps p.tables e below (T139.setTop (mkF m 166 #[.val (.ref a1), .val (.int p2), .val (.int p3), .val (.int p4), .unset] [(.ref a1)])) t → Steps p.tables e below (s₁.setTop (entryFrame m #[(.ref a1), (.int p2), (.int p3), (.int p4)] 5)) t := fun t k => ac155 t (by
      show Steps p.tables e below (T139.setTop (mkF m 165 #[.val (.ref a1), .val (.int p2), .val (.int p3), .val (.int p4), .unset] [])) _
      refine XS.aloadN X139.here hx rfl (hb hby d6_165) rfl rfl ?_
      exact k)
  obtain ⟨T157, X157, e157, st157⟩ := getF X139 hx hZ hown (host := "") (Or.inl (hw _ (List.mem_of_getElem? (i := 35) rfl))) Via.refl e139 Ff141 (g := (mkF m 166 #[.val (.ref a1), .val (.int p2), .val (.int p3), .val (.int p4), .unset] [(.ref a1)])) rfl rfl (hb hby d6_166)
  have ac158 : ∀ t, Steps p.tables e below (T157.setTop (mkF m 169 #[.val (.ref a1), .val (.int p2), .val (.int p3), .val (.int p4), .unset] [(.int (0 : Int32))])) t → Steps p.tables e below (s₁.setTop (entryFrame m #[(.ref a1), (.int p2), (.int p3), (.int p4)] 5)) t := fun t k => ac156 t (st157 t k)
  obtain ⟨fs, hr, hrun, hended, hW, hsame⟩ := X157.leave (v := some (.int (0 : Int32))) (fun h => by rw [Bd.returns] at h; cases h) (BodyLoose.notSynchronized Bd)
  refine ⟨_, _, ac158 _ ?_, hrun, hended, _, _, rfl, ?_, ⟨_, rfl⟩, hW, hsame.mono (by decide) (by decide)⟩
  · show Steps p.tables e below (T157.setTop (mkF m 169 #[.val (.ref a1), .val (.int p2), .val (.int p3), .val (.int p4), .unset] [(.int (0 : Int32))])) _
    exact retI X157 hx Bd.returns (hb hby d6_169) hr
  · show Q6n Z a1 p2 p3 p4 b1 b2 b3 b4 b5 bB f1 f2 f3 f4 f5 fB nB h0 n0 _ T157.heap _
    rw [e157]
    exact ⟨_, _, _, _, _, rfl, N139, Kp154, rfl, ⟨Ef140, Fw139, Ff141, Ff142, Ff143, Ff144, Ff145, Ff146, Ff147, Vf149, Vf150, Vf151, Vf152, Vf153, Vf148, ne_a1_b1, ne_a1_b2, ne_a1_b3, ne_a1_b4, ne_a1_b5, ne_a1_bB, ne_b1_b2, ne_b1_b3, ne_b1_b4, ne_b1_b5, ne_b1_bB, ne_b2_b3, ne_b2_b4, ne_b2_b5, ne_b2_bB, ne_b3_b4, ne_b3_b5, ne_b3_bB, ne_b4_b5, ne_b4_bB, ne_b5_bB, g_b1, g_b2, g_b3, g_b4, g_b5, g_bB⟩⟩
theorem ef_rm6g (m : MethodId) (x0 : Addr) (x1 : Int32) (x2 : Int32) (x3 : Int32) : entryFrame m #[(.ref x0), (.int x1), (.int x2), (.int x3)] 5 = mkF m 0 #[.val (.ref x0), .val (.int x1), .val (.int x2), .val (.int x3), .unset] [] := by first | (simp [entryFrame, mkF, argsToLocals, Value.category]; done) | rfl
def Q6g (Z : State) (a1 : Addr) (p2 : Int32) (p3 : Int32) (p4 : Int32) (b1 : Addr) (b2 : Addr) (b3 : Addr) (b4 : Addr) (b5 : Addr) (bB : Addr) (f1 : Nat → Value) (f2 : Nat → Value) (f3 : Nat → Value) (f4 : Nat → Value) (f5 : Nat → Value) (fB : Nat → Value) (rn : Nat) (h0 : Heap) (n0 : Nat) (v : Option Value) (h : Heap) (L : List Loc) : Prop := ∃ (f1' : Nat → Value) (f2' : Nat → Value) (f3' : Nat → Value) (f4' : Nat → Value) (f5' : Nat → Value), ∃ (bB' : Addr) (nB' : Nat) (fB' : Nat → Value), v = some (.int 0) ∧ Fr n0 L ∧ Keep h0 h [a1, b1, b2, b3, b4, b5] ∧ f1' 0 = .int p2 ∧ 256 < nB' ∧ nB' ≤ 65535 ∧ h0.size ≤ bB' ∧ own_T Z h n0 a1 ((0 : Int32) + (1 : Int32)) 0 b1 b2 b3 b4 b5 bB' f1' f2' f3' f4' f5' nB' fB'
set_option maxRecDepth 65536 in
set_option maxHeartbeats 40000000 in
theorem rm6g (l : Launch) (Z : State) (a0 : Array Value) (hw : ∀ d ∈ tables_1, d.before a0 Z = true) (ws : List Jvm.Cond) (a1 : Addr) (p2 : Int32) (p3 : Int32) (p4 : Int32) (b1 : Addr) (b2 : Addr) (b3 : Addr) (b4 : Addr) (b5 : Addr) (bB : Addr) (f1 : Nat → Value) (f2 : Nat → Value) (f3 : Nat → Value) (f4 : Nat → Value) (f5 : Nat → Value) (fB : Nat → Value) (rn : Nat) (h0 : Heap) (n0 : Nat) (Z0 : n0 ≤ h0.size) (HB : own_T Z h0 n0 a1 0 0 b1 b2 b3 b4 b5 bB f1 f2 f3 f4 f5 256 fB) (g_a1 : n0 ≤ a1) (hrn : p4.toInt = rn) (h1 : 256 < rn) (h2 : rn ≤ 65535) :
    MetFree l (⟨"com/example/termwright/termwright/TokenList", "add", "(III)I"⟩ : MethodName) (head1 (Jvm.Cond.code (⟨"com/example/termwright/termwright/TokenList", "add", "(III)I"⟩ : MethodName) prog_224_method_11_code 5 (some .int) :: ws) ({ frames := 3, cells := 1, slots := 65535, locals := 46 } : Room)) (fun a U => a = #[(.ref a1), (.int p2), (.int p3), (.int p4)] ∧ Z.Warmed39 U.vm ∧ U.heap = h0) (fun _ _ _ _ _ => True) (fun _ U o U' => ∃ v L, o = .returned v ∧ Q6g Z a1 p2 p3 p4 b1 b2 b3 b4 b5 bB f1 f2 f3 f4 f5 fB rn h0 n0 v U'.heap L ∧ FrameEnd U o U' L ({ frames := 3, cells := 1, slots := 65535, locals := 46 } : Room).cells ({ frames := 3, cells := 1, slots := 65535, locals := 46 } : Room).slots) := by
  refine MetFree.of_bodySF (plainFor_of_name pn_6) hisR ?_
  intro p e s m args below meth c s₁ Bd hml0 hP hK
  obtain ⟨rfl, hZ, hh⟩ := hP
  have hx := Bd.exec
  have hby := Bd.bytes
  have hml : c.maxLocals = 5 := hml0
  have hown : s.vm.findClass "com/example/termwright/termwright/TokenList" = some m.cls := findClass_of_methodNamed Bd.named
  have hnm := (name_of_methodNamed Bd.named Bd.method).1
  have X0 : Stand p l e ({ frames := 3, cells := 1, slots := 65535, locals := 46 } : Room) s m #[(.ref a1), (.int p2), (.int p3), (.int p4)] below meth c s₁ [] 0 0 := Stand.of_body Bd
  have e0 : s₁.heap = h0 := by rw [← hh, Bd.state]; rfl
  have N0 := Fr.nil n0
  have a0s : ∀ t, Steps p.tables e below (s₁.setTop (mkF m 0 #[.val (.ref a1), .val (.int p2), .val (.int p3), .val (.int p4), .unset] [])) t → Steps p.tables e below (s₁.setTop (entryFrame m #[(.ref a1), (.int p2), (.int p3), (.int p4)] 5)) t := fun t k => castTop (ef_rm6g m a1 p2 p3 p4) k
  obtain ⟨E1, F_sz, F_us, F_0, F_1, F_2, F_3, F_4, F_tb, V_0, V_1, V_2, V_3, V_4, V_5, ne_a1_b1, ne_a1_b2, ne_a1_b3, ne_a1_b4, ne_a1_b5, ne_a1_bB, ne_b1_b2, ne_b1_b3, ne_b1_b4, ne_b1_b5, ne_b1_bB, ne_b2_b3, ne_b2_b4, ne_b2_b5, ne_b2_bB, ne_b3_b4, ne_b3_b5, ne_b3_bB, ne_b4_b5, ne_b4_bB, ne_b5_bB, g_b1, g_b2, g_b3, g_b4, g_b5, g_bB⟩ := id HB
  have ac1 : ∀ t, Steps p.tables e below (s₁.setTop (mkF m 1 #[.val (.ref a1), .val (.int p2), .val (.int p3), .val (.int p4), .unset] [(.ref a1)])) t → Steps p.tables e below (s₁.setTop (entryFrame m #[(.ref a1), (.int p2), (.int p3), (.int p4)] 5)) t := fun t k => a0s t (by
      show Steps p.tables e below (s₁.setTop (mkF m 0 #[.val (.ref a1), .val (.int p2), .val (.int p3), .val (.int p4), .unset] [])) _
      refine XS.aloadN X0.here hx rfl (hb hby d6_0) rfl rfl ?_
      exact k)
  obtain ⟨T2, X2, e2, st2⟩ := getF X0 hx hZ hown (host := "") (Or.inl (hw _ (List.mem_of_getElem? (i := 33) rfl))) Via.refl e0 F_sz (g := (mkF m 1 #[.val (.ref a1), .val (.int p2), .val (.int p3), .val (.int p4), .unset] [(.ref a1)])) rfl rfl (hb hby d6_1)
  have ac3 : ∀ t, Steps p.tables e below (T2.setTop (mkF m 4 #[.val (.ref a1), .val (.int p2), .val (.int p3), .val (.int p4), .unset] [(.int (0 : Int32))])) t → Steps p.tables e below (s₁.setTop (entryFrame m #[(.ref a1), (.int p2), (.int p3), (.int p4)] 5)) t := fun t k => ac1 t (st2 t k)
  have ac4 : ∀ t, Steps p.tables e below (T2.setTop (mkF m 5 #[.val (.ref a1), .val (.int p2), .val (.int p3), .val (.int p4), .unset] [(.ref a1), (.int (0 : Int32))])) t → Steps p.tables e below (s₁.setTop (entryFrame m #[(.ref a1), (.int p2), (.int p3), (.int p4)] 5)) t := fun t k => ac3 t (by
      show Steps p.tables e below (T2.setTop (mkF m 4 #[.val (.ref a1), .val (.int p2), .val (.int p3), .val (.int p4), .unset] [(.int (0 : Int32))])) _
      refine XS.aloadN X2.here hx rfl (hb hby d6_4) rfl rfl ?_
      exact k)
  obtain ⟨T5, X5, e5, st5⟩ := getF X2 hx hZ hown (host := "") (Or.inl (hw _ (List.mem_of_getElem? (i := 10) rfl))) Via.refl e2 F_0 (g := (mkF m 5 #[.val (.ref a1), .val (.int p2), .val (.int p3), .val (.int p4), .unset] [(.ref a1), (.int (0 : Int32))])) rfl rfl (hb hby d6_5)
  have ac6 : ∀ t, Steps p.tables e below (T5.setTop (mkF m 8 #[.val (.ref a1), .val (.int p2), .val (.int p3), .val (.int p4), .unset] [(.ref b1), (.int (0 : Int32))])) t → Steps p.tables e below (s₁.setTop (entryFrame m #[(.ref a1), (.int p2), (.int p3), (.int p4)] 5)) t := fun t k => ac4 t (st5 t k)
  obtain ⟨cl7, Ac7, hl7, hb7⟩ := V_0.len
  have ac8 : ∀ t, Steps p.tables e below (T5.setTop (mkF m 96 #[.val (.ref a1), .val (.int p2), .val (.int p3), .val (.int p4), .unset] [(.int p4), (.ref a1)])) t → Steps p.tables e below (s₁.setTop (entryFrame m #[(.ref a1), (.int p2), (.int p3), (.int p4)] 5)) t := fun t k => ac6 t (by
      show Steps p.tables e below (T5.setTop (mkF m 8 #[.val (.ref a1), .val (.int p2), .val (.int p3), .val (.int p4), .unset] [(.ref b1), (.int (0 : Int32))])) _
      refine X5.arraylength hx (by rw [e5]; exact Ac7.1) (State.isArrayOf_alike hZ.alike Ac7.2.1) (g := (mkF m 8 #[.val (.ref a1), .val (.int p2), .val (.int p3), .val (.int p4), .unset] [(.ref b1), (.int (0 : Int32))])) rfl rfl (hb hby d6_8) _ ?_
      rw [hl7]
      show Steps p.tables e below (T5.setTop (mkF m 9 #[.val (.ref a1), .val (.int p2), .val (.int p3), .val (.int p4), .unset] [(.int (Int32.ofNat 16)), (.int (0 : Int32))])) _
      refine XS.icmpYes X5.here hx rfl (pc0 := 9) (pc' := 94) rfl (hb hby d6_9) rfl (feq (by decide)).2 (by decide) (by decide) ?_
      show Steps p.tables e below (T5.setTop (mkF m 94 #[.val (.ref a1), .val (.int p2), .val (.int p3), .val (.int p4), .unset] [])) _
      refine XS.aloadN X5.here hx rfl (hb hby d6_94) rfl rfl ?_
      show Steps p.tables e below (T5.setTop (mkF m 95 #[.val (.ref a1), .val (.int p2), .val (.int p3), .val (.int p4), .unset] [(.ref a1)])) _
      refine XS.iloadN X5.here hx rfl (hb hby d6_95) rfl ?_
      exact k)
  obtain ⟨cq9, q9, q9'⟩ := E1.cell
  obtain ⟨_, _, ⟨T9, L9, k9, n9⟩, -, X9, ⟨Lc9, hQ9, l9, y9, z9⟩, st9⟩ := X5.privateBack hx (y := (⟨"com/example/termwright/termwright/TokenList", "makeRoom", "(I)V"⟩ : MethodName)) hown (mvT hZ (hw _ (List.mem_of_getElem? (i := 48) rfl))) (mvT hZ (hw _ (List.mem_of_getElem? (i := 49) rfl))) (own_selfsel hZ (hw _ (List.mem_of_getElem? (i := 1) rfl)) (hw _ (List.mem_of_getElem? (i := 50) rfl)) (hw _ (List.mem_of_getElem? (i := 49) rfl)) (by decide)) (Cond.privateMethod_at (mvP hZ (hw _ (List.mem_of_getElem? (i := 50) rfl)) (args := #[]))) (mvT hZ (hw _ (List.mem_of_getElem? (i := 51) rfl))) (by decide) (backOf (W := 0) (rm7g l Z a0 hw [] a1 p4 0 _ _ _ _ _ _ _ _ _ _ _ _ rn h0 n0 Z0 HB g_a1 hrn h1 h2) hZ (hw _ (List.mem_of_getElem? (i := 51) rfl)) (hw _ (List.mem_of_getElem? (i := 2) rfl)) (by decide) (by decide)) (g := (mkF m 96 #[.val (.ref a1), .val (.int p2), .val (.int p3), .val (.int p4), .unset] [(.int p4), (.ref a1)])) rfl (by rw [hml]; rfl) (Steps.refl _) (a := a1) (by rw [e5]; exact q9) q9' (argsL := [(.int p4)]) (rest := []) (lenOf pd_4 rfl) rfl (by show 2 * 0 + _ ≤ _; exact Nat.le_of_eq rfl) (hb hby d6_96) (fun _ _ => ⟨rfl, e5, (by decide : 0 + 1 ≤ _), (by decide : 0 + 65535 ≤ _)⟩)
  dsimp only [Pt.U, Pt.locs, Pt.cells, Pt.slots] at X9 l9 y9 z9 st9 hQ9
  subst l9 y9 z9
  obtain ⟨bB9, nB9, fB9, rfl, N9q, K9q, h19, h29, sz9, HB9⟩ := hQ9
  have N9 := Fr.app N0 N9q
  have Ef10 := E1.keep K9q
  have Vf11 := V_0.keep K9q (ninS (Ne.symm ne_a1_b1) nin0)
  have Vf12 := V_1.keep K9q (ninS (Ne.symm ne_a1_b2) nin0)
  have Vf13 := V_2.keep K9q (ninS (Ne.symm ne_a1_b3) nin0)
  have Vf14 := V_3.keep K9q (ninS (Ne.symm ne_a1_b4) nin0)
  have Vf15 := V_4.keep K9q (ninS (Ne.symm ne_a1_b5) nin0)
  have Vf16 := V_5.keep K9q (ninS (Ne.symm ne_a1_bB) nin0)
  have Z9 : n0 ≤ T9.heap.size := Nat.le_trans Z0 K9q.1
  have Kp17 : Keep h0 T9.heap [a1, b1, b2, b3, b4, b5] := (Keep.refl h0 [a1, b1, b2, b3, b4, b5]).trans K9q (allS (Or.inl (List.mem_of_getElem? (i := 0) rfl)) all0)
  have ac18 : ∀ t, Steps p.tables e below (T9.setTop (mkF m 99 #[.val (.ref a1), .val (.int p2), .val (.int p3), .val (.int p4), .unset] [])) t → Steps p.tables e below (s₁.setTop (entryFrame m #[(.ref a1), (.int p2), (.int p3), (.int p4)] 5)) t := fun t k => ac8 t (st9.trans k)
  obtain ⟨E1, F_sz, F_us, F_0, F_1, F_2, F_3, F_4, F_tb, V_0, V_1, V_2, V_3, V_4, V_5, ne_a1_b1, ne_a1_b2, ne_a1_b3, ne_a1_b4, ne_a1_b5, ne_a1_bB9, ne_b1_b2, ne_b1_b3, ne_b1_b4, ne_b1_b5, ne_b1_bB9, ne_b2_b3, ne_b2_b4, ne_b2_b5, ne_b2_bB9, ne_b3_b4, ne_b3_b5, ne_b3_bB9, ne_b4_b5, ne_b4_bB9, ne_b5_bB9, g_b1, g_b2, g_b3, g_b4, g_b5, g_bB9⟩ := id HB9
  have ac19 : ∀ t, Steps p.tables e below (T9.setTop (mkF m 100 #[.val (.ref a1), .val (.int p2), .val (.int p3), .val (.int p4), .unset] [(.ref a1)])) t → Steps p.tables e below (s₁.setTop (entryFrame m #[(.ref a1), (.int p2), (.int p3), (.int p4)] 5)) t := fun t k => ac18 t (by
      show Steps p.tables e below (T9.setTop (mkF m 99 #[.val (.ref a1), .val (.int p2), .val (.int p3), .val (.int p4), .unset] [])) _
      refine XS.aloadN X9.here hx rfl (hb hby d6_99) rfl rfl ?_
      exact k)
  obtain ⟨T20, X20, e20, st20⟩ := getF X9 hx hZ hown (host := "") (Or.inl (hw _ (List.mem_of_getElem? (i := 10) rfl))) Via.refl rfl F_0 (g := (mkF m 100 #[.val (.ref a1), .val (.int p2), .val (.int p3), .val (.int p4), .unset] [(.ref a1)])) rfl rfl (hb hby d6_100)
  have ac21 : ∀ t, Steps p.tables e below (T20.setTop (mkF m 103 #[.val (.ref a1), .val (.int p2), .val (.int p3), .val (.int p4), .unset] [(.ref b1)])) t → Steps p.tables e below (s₁.setTop (entryFrame m #[(.ref a1), (.int p2), (.int p3), (.int p4)] 5)) t := fun t k => ac19 t (st20 t k)
  have ac22 : ∀ t, Steps p.tables e below (T20.setTop (mkF m 104 #[.val (.ref a1), .val (.int p2), .val (.int p3), .val (.int p4), .unset] [(.ref a1), (.ref b1)])) t → Steps p.tables e below (s₁.setTop (entryFrame m #[(.ref a1), (.int p2), (.int p3), (.int p4)] 5)) t := fun t k => ac21 t (by
      show Steps p.tables e below (T20.setTop (mkF m 103 #[.val (.ref a1), .val (.int p2), .val (.int p3), .val (.int p4), .unset] [(.ref b1)])) _
      refine XS.aloadN X20.here hx rfl (hb hby d6_103) rfl rfl ?_
      exact k)
  obtain ⟨T23, X23, e23, st23⟩ := getF X20 hx hZ hown (host := "") (Or.inl (hw _ (List.mem_of_getElem? (i := 33) rfl))) Via.refl e20 F_sz (g := (mkF m 104 #[.val (.ref a1), .val (.int p2), .val (.int p3), .val (.int p4), .unset] [(.ref a1), (.ref b1)])) rfl rfl (hb hby d6_104)
  have ac24 : ∀ t, Steps p.tables e below (T23.setTop (mkF m 107 #[.val (.ref a1), .val (.int p2), .val (.int p3), .val (.int p4), .unset] [(.int (0 : Int32)), (.ref b1)])) t → Steps p.tables e below (s₁.setTop (entryFrame m #[(.ref a1), (.int p2), (.int p3), (.int p4)] 5)) t := fun t k => ac22 t (st23 t k)
  have ac25 : ∀ t, Steps p.tables e below (T23.setTop (mkF m 108 #[.val (.ref a1), .val (.int p2), .val (.int p3), .val (.int p4), .unset] [(.int p2), (.int (0 : Int32)), (.ref b1)])) t → Steps p.tables e below (s₁.setTop (entryFrame m #[(.ref a1), (.int p2), (.int p3), (.int p4)] 5)) t := fun t k => ac24 t (by
      show Steps p.tables e below (T23.setTop (mkF m 107 #[.val (.ref a1), .val (.int p2), .val (.int p3), .val (.int p4), .unset] [(.int (0 : Int32)), (.ref b1)])) _
      refine XS.iloadN X23.here hx rfl (hb hby d6_107) rfl ?_
      exact k)
  obtain ⟨cl26, Ac26, hin26, -⟩ := V_0.at (j := (0 : Int32)) (i := 0) rfl (by decide)
  obtain ⟨T26, h26, X26, e26, W26, st26⟩ := stI X23 hx hZ e23 Ac26 (j := (0 : Int32)) hin26 (g := (mkF m 108 #[.val (.ref a1), .val (.int p2), .val (.int p3), .val (.int p4), .unset] [(.int p2), (.int (0 : Int32)), (.ref b1)])) rfl rfl (hb hby d6_108)
  have V26 := V_0.set (i := 0) rfl W26 rfl
  have Ef27 := E1.wr W26
  have Ff28 := F_sz.other W26 (Or.inl ne_a1_b1)
  have Ff29 := F_us.other W26 (Or.inl ne_a1_b1)
  have Ff30 := F_0.other W26 (Or.inl ne_a1_b1)
  have Ff31 := F_1.other W26 (Or.inl ne_a1_b1)
  have Vf32 := V_1.other W26 (Ne.symm ne_b1_b2)
  have Ff33 := F_2.other W26 (Or.inl ne_a1_b1)
  have Vf34 := V_2.other W26 (Ne.symm ne_b1_b3)
  have Ff35 := F_3.other W26 (Or.inl ne_a1_b1)
  have Vf36 := V_3.other W26 (Ne.symm ne_b1_b4)
  have Ff37 := F_4.other W26 (Or.inl ne_a1_b1)
  have Vf38 := V_4.other W26 (Ne.symm ne_b1_b5)
  have Ff39 := F_tb.other W26 (Or.inl ne_a1_b1)
  have Vf40 := V_5.other W26 (Ne.symm ne_b1_bB9)
  have N26 := Fr.snoc X26 N9 g_b1
  have Z26 : n0 ≤ h26.size := Nat.le_trans Z9 (Keep.of_wr W26).1
  have Kp41 : Keep h0 h26 [a1, b1, b2, b3, b4, b5] := Kp17.wr W26 (Or.inl (List.mem_of_getElem? (i := 1) rfl))
  have ac42 : ∀ t, Steps p.tables e below (T26.setTop (mkF m 109 #[.val (.ref a1), .val (.int p2), .val (.int p3), .val (.int p4), .unset] [])) t → Steps p.tables e below (s₁.setTop (entryFrame m #[(.ref a1), (.int p2), (.int p3), (.int p4)] 5)) t := fun t k => ac25 t (st26 t k)
  have ac43 : ∀ t, Steps p.tables e below (T26.setTop (mkF m 110 #[.val (.ref a1), .val (.int p2), .val (.int p3), .val (.int p4), .unset] [(.ref a1)])) t → Steps p.tables e below (s₁.setTop (entryFrame m #[(.ref a1), (.int p2), (.int p3), (.int p4)] 5)) t := fun t k => ac42 t (by
      show Steps p.tables e below (T26.setTop (mkF m 109 #[.val (.ref a1), .val (.int p2), .val (.int p3), .val (.int p4), .unset] [])) _
      refine XS.aloadN X26.here hx rfl (hb hby d6_109) rfl rfl ?_
      exact k)
  obtain ⟨T44, X44, e44, st44⟩ := getF X26 hx hZ hown (host := "") (Or.inl (hw _ (List.mem_of_getElem? (i := 12) rfl))) Via.refl e26 Ff31 (g := (mkF m 110 #[.val (.ref a1), .val (.int p2), .val (.int p3), .val (.int p4), .unset] [(.ref a1)])) rfl rfl (hb hby d6_110)
  have ac45 : ∀ t, Steps p.tables e below (T44.setTop (mkF m 113 #[.val (.ref a1), .val (.int p2), .val (.int p3), .val (.int p4), .unset] [(.ref b2)])) t → Steps p.tables e below (s₁.setTop (entryFrame m #[(.ref a1), (.int p2), (.int p3), (.int p4)] 5)) t := fun t k => ac43 t (st44 t k)
  have ac46 : ∀ t, Steps p.tables e below (T44.setTop (mkF m 114 #[.val (.ref a1), .val (.int p2), .val (.int p3), .val (.int p4), .unset] [(.ref a1), (.ref b2)])) t → Steps p.tables e below (s₁.setTop (entryFrame m #[(.ref a1), (.int p2), (.int p3), (.int p4)] 5)) t := fun t k => ac45 t (by
      show Steps p.tables e below (T44.setTop (mkF m 113 #[.val (.ref a1), .val (.int p2), .val (.int p3), .val (.int p4), .unset] [(.ref b2)])) _
      refine XS.aloadN X44.here hx rfl (hb hby d6_113) rfl rfl ?_
      exact k)
  obtain ⟨T47, X47, e47, st47⟩ := getF X44 hx hZ hown (host := "") (Or.inl (hw _ (List.mem_of_getElem? (i := 33) rfl))) Via.refl e44 Ff28 (g := (mkF m 114 #[.val (.ref a1), .val (.int p2), .val (.int p3), .val (.int p4), .unset] [(.ref a1), (.ref b2)])) rfl rfl (hb hby d6_114)
  have ac48 : ∀ t, Steps p.tables e below (T47.setTop (mkF m 117 #[.val (.ref a1), .val (.int p2), .val (.int p3), .val (.int p4), .unset] [(.int (0 : Int32)), (.ref b2)])) t → Steps p.tables e below (s₁.setTop (entryFrame m #[(.ref a1), (.int p2), (.int p3), (.int p4)] 5)) t := fun t k => ac46 t (st47 t k)
  have ac49 : ∀ t, Steps p.tables e below (T47.setTop (mkF m 118 #[.val (.ref a1), .val (.int p2), .val (.int p3), .val (.int p4), .unset] [(.int p3), (.int (0 : Int32)), (.ref b2)])) t → Steps p.tables e below (s₁.setTop (entryFrame m #[(.ref a1), (.int p2), (.int p3), (.int p4)] 5)) t := fun t k => ac48 t (by
      show Steps p.tables e below (T47.setTop (mkF m 117 #[.val (.ref a1), .val (.int p2), .val (.int p3), .val (.int p4), .unset] [(.int (0 : Int32)), (.ref b2)])) _
      refine XS.iloadN X47.here hx rfl (hb hby d6_117) rfl ?_
      exact k)
  obtain ⟨cl50, Ac50, hin50, -⟩ := Vf32.at (j := (0 : Int32)) (i := 0) rfl (by decide)
  obtain ⟨T50, h50, X50, e50, W50, st50⟩ := stI X47 hx hZ e47 Ac50 (j := (0 : Int32)) hin50 (g := (mkF m 118 #[.val (.ref a1), .val (.int p2), .val (.int p3), .val (.int p4), .unset] [(.int p3), (.int (0 : Int32)), (.ref b2)])) rfl rfl (hb hby d6_118)
  have V50 := Vf32.set (i := 0) rfl W50 rfl
  have Ef51 := Ef27.wr W50
  have Ff52 := Ff28.other W50 (Or.inl ne_a1_b2)
  have Ff53 := Ff29.other W50 (Or.inl ne_a1_b2)
  have Ff54 := Ff30.other W50 (Or.inl ne_a1_b2)
  have Ff55 := Ff31.other W50 (Or.inl ne_a1_b2)
  have Ff56 := Ff33.other W50 (Or.inl ne_a1_b2)
  have Vf57 := Vf34.other W50 (Ne.symm ne_b2_b3)
  have Ff58 := Ff35.other W50 (Or.inl ne_a1_b2)
  have Vf59 := Vf36.other W50 (Ne.symm ne_b2_b4)
  have Ff60 := Ff37.other W50 (Or.inl ne_a1_b2)
  have Vf61 := Vf38.other W50 (Ne.symm ne_b2_b5)
  have Ff62 := Ff39.other W50 (Or.inl ne_a1_b2)
  have Vf63 := Vf40.other W50 (Ne.symm ne_b2_bB9)
  have Vf64 := V26.other W50 ne_b1_b2
  have N50 := Fr.snoc X50 N26 g_b2
  have Z50 : n0 ≤ h50.size := Nat.le_trans Z26 (Keep.of_wr W50).1
  have Kp65 : Keep h0 h50 [a1, b1, b2, b3, b4, b5] := Kp41.wr W50 (Or.inl (List.mem_of_getElem? (i := 2) rfl))
  have ac66 : ∀ t, Steps p.tables e below (T50.setTop (mkF m 119 #[.val (.ref a1), .val (.int p2), .val (.int p3), .val (.int p4), .unset] [])) t → Steps p.tables e below (s₁.setTop (entryFrame m #[(.ref a1), (.int p2), (.int p3), (.int p4)] 5)) t := fun t k => ac49 t (st50 t k)
  have ac67 : ∀ t, Steps p.tables e below (T50.setTop (mkF m 120 #[.val (.ref a1), .val (.int p2), .val (.int p3), .val (.int p4), .unset] [(.ref a1)])) t → Steps p.tables e below (s₁.setTop (entryFrame m #[(.ref a1), (.int p2), (.int p3), (.int p4)] 5)) t := fun t k => ac66 t (by
      show Steps p.tables e below (T50.setTop (mkF m 119 #[.val (.ref a1), .val (.int p2), .val (.int p3), .val (.int p4), .unset] [])) _
      refine XS.aloadN X50.here hx rfl (hb hby d6_119) rfl rfl ?_
      exact k)
  obtain ⟨T68, X68, e68, st68⟩ := getF X50 hx hZ hown (host := "") (Or.inl (hw _ (List.mem_of_getElem? (i := 14) rfl))) Via.refl e50 Ff56 (g := (mkF m 120 #[.val (.ref a1), .val (.int p2), .val (.int p3), .val (.int p4), .unset] [(.ref a1)])) rfl rfl (hb hby d6_120)
  have ac69 : ∀ t, Steps p.tables e below (T68.setTop (mkF m 123 #[.val (.ref a1), .val (.int p2), .val (.int p3), .val (.int p4), .unset] [(.ref b3)])) t → Steps p.tables e below (s₁.setTop (entryFrame m #[(.ref a1), (.int p2), (.int p3), (.int p4)] 5)) t := fun t k => ac67 t (st68 t k)
  have ac70 : ∀ t, Steps p.tables e below (T68.setTop (mkF m 124 #[.val (.ref a1), .val (.int p2), .val (.int p3), .val (.int p4), .unset] [(.ref a1), (.ref b3)])) t → Steps p.tables e below (s₁.setTop (entryFrame m #[(.ref a1), (.int p2), (.int p3), (.int p4)] 5)) t := fun t k => ac69 t (by
      show Steps p.tables e below (T68.setTop (mkF m 123 #[.val (.ref a1), .val (.int p2), .val (.int p3), .val (.int p4), .unset] [(.ref b3)])) _
      refine XS.aloadN X68.here hx rfl (hb hby d6_123) rfl rfl ?_
      exact k)
  obtain ⟨T71, X71, e71, st71⟩ := getF X68 hx hZ hown (host := "") (Or.inl (hw _ (List.mem_of_getElem? (i := 33) rfl))) Via.refl e68 Ff52 (g := (mkF m 124 #[.val (.ref a1), .val (.int p2), .val (.int p3), .val (.int p4), .unset] [(.ref a1), (.ref b3)])) rfl rfl (hb hby d6_124)
  have ac72 : ∀ t, Steps p.tables e below (T71.setTop (mkF m 127 #[.val (.ref a1), .val (.int p2), .val (.int p3), .val (.int p4), .unset] [(.int (0 : Int32)), (.ref b3)])) t → Steps p.tables e below (s₁.setTop (entryFrame m #[(.ref a1), (.int p2), (.int p3), (.int p4)] 5)) t := fun t k => ac70 t (st71 t k)
  have ac73 : ∀ t, Steps p.tables e below (T71.setTop (mkF m 128 #[.val (.ref a1), .val (.int p2), .val (.int p3), .val (.int p4), .unset] [(.ref a1), (.int (0 : Int32)), (.ref b3)])) t → Steps p.tables e below (s₁.setTop (entryFrame m #[(.ref a1), (.int p2), (.int p3), (.int p4)] 5)) t := fun t k => ac72 t (by
      show Steps p.tables e below (T71.setTop (mkF m 127 #[.val (.ref a1), .val (.int p2), .val (.int p3), .val (.int p4), .unset] [(.int (0 : Int32)), (.ref b3)])) _
      refine XS.aloadN X71.here hx rfl (hb hby d6_127) rfl rfl ?_
      exact k)
  obtain ⟨T74, X74, e74, st74⟩ := getF X71 hx hZ hown (host := "") (Or.inl (hw _ (List.mem_of_getElem? (i := 35) rfl))) Via.refl e71 Ff53 (g := (mkF m 128 #[.val (.ref a1), .val (.int p2), .val (.int p3), .val (.int p4), .unset] [(.ref a1), (.int (0 : Int32)), (.ref b3)])) rfl rfl (hb hby d6_128)
  have ac75 : ∀ t, Steps p.tables e below (T74.setTop (mkF m 131 #[.val (.ref a1), .val (.int p2), .val (.int p3), .val (.int p4), .unset] [(.int (0 : Int32)), (.int (0 : Int32)), (.ref b3)])) t → Steps p.tables e below (s₁.setTop (entryFrame m #[(.ref a1), (.int p2), (.int p3), (.int p4)] 5)) t := fun t k => ac73 t (st74 t k)
  obtain ⟨cl76, Ac76, hin76, -⟩ := Vf57.at (j := (0 : Int32)) (i := 0) rfl (by decide)
  obtain ⟨T76, h76, X76, e76, W76, st76⟩ := stI X74 hx hZ e74 Ac76 (j := (0 : Int32)) hin76 (g := (mkF m 131 #[.val (.ref a1), .val (.int p2), .val (.int p3), .val (.int p4), .unset] [(.int (0 : Int32)), (.int (0 : Int32)), (.ref b3)])) rfl rfl (hb hby d6_131)
  have V76 := Vf57.set (i := 0) rfl W76 rfl
  have Ef77 := Ef51.wr W76
  have Ff78 := Ff52.other W76 (Or.inl ne_a1_b3)
  have Ff79 := Ff53.other W76 (Or.inl ne_a1_b3)
  have Ff80 := Ff54.other W76 (Or.inl ne_a1_b3)
  have Ff81 := Ff55.other W76 (Or.inl ne_a1_b3)
  have Ff82 := Ff56.other W76 (Or.inl ne_a1_b3)
  have Ff83 := Ff58.other W76 (Or.inl ne_a1_b3)
  have Vf84 := Vf59.other W76 (Ne.symm ne_b3_b4)
  have Ff85 := Ff60.other W76 (Or.inl ne_a1_b3)
  have Vf86 := Vf61.other W76 (Ne.symm ne_b3_b5)
  have Ff87 := Ff62.other W76 (Or.inl ne_a1_b3)
  have Vf88 := Vf63.other W76 (Ne.symm ne_b3_bB9)
  have Vf89 := Vf64.other W76 ne_b1_b3
  have Vf90 := V50.other W76 ne_b2_b3
  have N76 := Fr.snoc X76 N50 g_b3
  have Z76 : n0 ≤ h76.size := Nat.le_trans Z50 (Keep.of_wr W76).1
  have Kp91 : Keep h0 h76 [a1, b1, b2, b3, b4, b5] := Kp65.wr W76 (Or.inl (List.mem_of_getElem? (i := 3) rfl))
  have ac92 : ∀ t, Steps p.tables e below (T76.setTop (mkF m 132 #[.val (.ref a1), .val (.int p2), .val (.int p3), .val (.int p4), .unset] [])) t → Steps p.tables e below (s₁.setTop (entryFrame m #[(.ref a1), (.int p2), (.int p3), (.int p4)] 5)) t := fun t k => ac75 t (st76 t k)
  have ac93 : ∀ t, Steps p.tables e below (T76.setTop (mkF m 133 #[.val (.ref a1), .val (.int p2), .val (.int p3), .val (.int p4), .unset] [(.ref a1)])) t → Steps p.tables e below (s₁.setTop (entryFrame m #[(.ref a1), (.int p2), (.int p3), (.int p4)] 5)) t := fun t k => ac92 t (by
      show Steps p.tables e below (T76.setTop (mkF m 132 #[.val (.ref a1), .val (.int p2), .val (.int p3), .val (.int p4), .unset] [])) _
      refine XS.aloadN X76.here hx rfl (hb hby d6_132) rfl rfl ?_
      exact k)
  obtain ⟨T94, X94, e94, st94⟩ := getF X76 hx hZ hown (host := "") (Or.inl (hw _ (List.mem_of_getElem? (i := 16) rfl))) Via.refl e76 Ff83 (g := (mkF m 133 #[.val (.ref a1), .val (.int p2), .val (.int p3), .val (.int p4), .unset] [(.ref a1)])) rfl rfl (hb hby d6_133)
  have ac95 : ∀ t, Steps p.tables e below (T94.setTop (mkF m 136 #[.val (.ref a1), .val (.int p2), .val (.int p3), .val (.int p4), .unset] [(.ref b4)])) t → Steps p.tables e below (s₁.setTop (entryFrame m #[(.ref a1), (.int p2), (.int p3), (.int p4)] 5)) t := fun t k => ac93 t (st94 t k)
  have ac96 : ∀ t, Steps p.tables e below (T94.setTop (mkF m 137 #[.val (.ref a1), .val (.int p2), .val (.int p3), .val (.int p4), .unset] [(.ref a1), (.ref b4)])) t → Steps p.tables e below (s₁.setTop (entryFrame m #[(.ref a1), (.int p2), (.int p3), (.int p4)] 5)) t := fun t k => ac95 t (by
      show Steps p.tables e below (T94.setTop (mkF m 136 #[.val (.ref a1), .val (.int p2), .val (.int p3), .val (.int p4), .unset] [(.ref b4)])) _
      refine XS.aloadN X94.here hx rfl (hb hby d6_136) rfl rfl ?_
      exact k)
  obtain ⟨T97, X97, e97, st97⟩ := getF X94 hx hZ hown (host := "") (Or.inl (hw _ (List.mem_of_getElem? (i := 33) rfl))) Via.refl e94 Ff78 (g := (mkF m 137 #[.val (.ref a1), .val (.int p2), .val (.int p3), .val (.int p4), .unset] [(.ref a1), (.ref b4)])) rfl rfl (hb hby d6_137)
  have ac98 : ∀ t, Steps p.tables e below (T97.setTop (mkF m 140 #[.val (.ref a1), .val (.int p2), .val (.int p3), .val (.int p4), .unset] [(.int (0 : Int32)), (.ref b4)])) t → Steps p.tables e below (s₁.setTop (entryFrame m #[(.ref a1), (.int p2), (.int p3), (.int p4)] 5)) t := fun t k => ac96 t (st97 t k)
  have ac99 : ∀ t, Steps p.tables e below (T97.setTop (mkF m 141 #[.val (.ref a1), .val (.int p2), .val (.int p3), .val (.int p4), .unset] [(.ref a1), (.int (0 : Int32)), (.ref b4)])) t → Steps p.tables e below (s₁.setTop (entryFrame m #[(.ref a1), (.int p2), (.int p3), (.int p4)] 5)) t := fun t k => ac98 t (by
      show Steps p.tables e below (T97.setTop (mkF m 140 #[.val (.ref a1), .val (.int p2), .val (.int p3), .val (.int p4), .unset] [(.int (0 : Int32)), (.ref b4)])) _
      refine XS.aloadN X97.here hx rfl (hb hby d6_140) rfl rfl ?_
      exact k)
  obtain ⟨T100, X100, e100, st100⟩ := getF X97 hx hZ hown (host := "") (Or.inl (hw _ (List.mem_of_getElem? (i := 35) rfl))) Via.refl e97 Ff79 (g := (mkF m 141 #[.val (.ref a1), .val (.int p2), .val (.int p3), .val (.int p4), .unset] [(.ref a1), (.int (0 : Int32)), (.ref b4)])) rfl rfl (hb hby d6_141)
  have ac101 : ∀ t, Steps p.tables e below (T100.setTop (mkF m 144 #[.val (.ref a1), .val (.int p2), .val (.int p3), .val (.int p4), .unset] [(.int (0 : Int32)), (.int (0 : Int32)), (.ref b4)])) t → Steps p.tables e below (s₁.setTop (entryFrame m #[(.ref a1), (.int p2), (.int p3), (.int p4)] 5)) t := fun t k => ac99 t (st100 t k)
  obtain ⟨cl102, Ac102, hin102, -⟩ := Vf84.at (j := (0 : Int32)) (i := 0) rfl (by decide)
  obtain ⟨T102, h102, X102, e102, W102, st102⟩ := stI X100 hx hZ e100 Ac102 (j := (0 : Int32)) hin102 (g := (mkF m 144 #[.val (.ref a1), .val (.int p2), .val (.int p3), .val (.int p4), .unset] [(.int (0 : Int32)), (.int (0 : Int32)), (.ref b4)])) rfl rfl (hb hby d6_144)
  have V102 := Vf84.set (i := 0) rfl W102 rfl
  have Ef103 := Ef77.wr W102
  have Ff104 := Ff78.other W102 (Or.inl ne_a1_b4)
  have Ff105 := Ff79.other W102 (Or.inl ne_a1_b4)
  have Ff106 := Ff80.other W102 (Or.inl ne_a1_b4)
  have Ff107 := Ff81.other W102 (Or.inl ne_a1_b4)
  have Ff108 := Ff82.other W102 (Or.inl ne_a1_b4)
  have Ff109 := Ff83.other W102 (Or.inl ne_a1_b4)
  have Ff110 := Ff85.other W102 (Or.inl ne_a1_b4)
  have Vf111 := Vf86.other W102 (Ne.symm ne_b4_b5)
  have Ff112 := Ff87.other W102 (Or.inl ne_a1_b4)
  have Vf113 := Vf88.other W102 (Ne.symm ne_b4_bB9)
  have Vf114 := Vf89.other W102 ne_b1_b4
  have Vf115 := Vf90.other W102 ne_b2_b4
  have Vf116 := V76.other W102 ne_b3_b4
  have N102 := Fr.snoc X102 N76 g_b4
  have Z102 : n0 ≤ h102.size := Nat.le_trans Z76 (Keep.of_wr W102).1
  have Kp117 : Keep h0 h102 [a1, b1, b2, b3, b4, b5] := Kp91.wr W102 (Or.inl (List.mem_of_getElem? (i := 4) rfl))
  have ac118 : ∀ t, Steps p.tables e below (T102.setTop (mkF m 145 #[.val (.ref a1), .val (.int p2), .val (.int p3), .val (.int p4), .unset] [])) t → Steps p.tables e below (s₁.setTop (entryFrame m #[(.ref a1), (.int p2), (.int p3), (.int p4)] 5)) t := fun t k => ac101 t (st102 t k)
  have ac119 : ∀ t, Steps p.tables e below (T102.setTop (mkF m 146 #[.val (.ref a1), .val (.int p2), .val (.int p3), .val (.int p4), .unset] [(.ref a1)])) t → Steps p.tables e below (s₁.setTop (entryFrame m #[(.ref a1), (.int p2), (.int p3), (.int p4)] 5)) t := fun t k => ac118 t (by
      show Steps p.tables e below (T102.setTop (mkF m 145 #[.val (.ref a1), .val (.int p2), .val (.int p3), .val (.int p4), .unset] [])) _
      refine XS.aloadN X102.here hx rfl (hb hby d6_145) rfl rfl ?_
      exact k)
  obtain ⟨T120, X120, e120, st120⟩ := getF X102 hx hZ hown (host := "") (Or.inl (hw _ (List.mem_of_getElem? (i := 18) rfl))) Via.refl e102 Ff110 (g := (mkF m 146 #[.val (.ref a1), .val (.int p2), .val (.int p3), .val (.int p4), .unset] [(.ref a1)])) rfl rfl (hb hby d6_146)
  have ac121 : ∀ t, Steps p.tables e below (T120.setTop (mkF m 149 #[.val (.ref a1), .val (.int p2), .val (.int p3), .val (.int p4), .unset] [(.ref b5)])) t → Steps p.tables e below (s₁.setTop (entryFrame m #[(.ref a1), (.int p2), (.int p3), (.int p4)] 5)) t := fun t k => ac119 t (st120 t k)
  have ac122 : ∀ t, Steps p.tables e below (T120.setTop (mkF m 150 #[.val (.ref a1), .val (.int p2), .val (.int p3), .val (.int p4), .unset] [(.ref a1), (.ref b5)])) t → Steps p.tables e below (s₁.setTop (entryFrame m #[(.ref a1), (.int p2), (.int p3), (.int p4)] 5)) t := fun t k => ac121 t (by
      show Steps p.tables e below (T120.setTop (mkF m 149 #[.val (.ref a1), .val (.int p2), .val (.int p3), .val (.int p4), .unset] [(.ref b5)])) _
      refine XS.aloadN X120.here hx rfl (hb hby d6_149) rfl rfl ?_
      exact k)
  obtain ⟨T123, X123, e123, st123⟩ := getF X120 hx hZ hown (host := "") (Or.inl (hw _ (List.mem_of_getElem? (i := 33) rfl))) Via.refl e120 Ff104 (g := (mkF m 150 #[.val (.ref a1), .val (.int p2), .val (.int p3), .val (.int p4), .unset] [(.ref a1), (.ref b5)])) rfl rfl (hb hby d6_150)
  have ac124 : ∀ t, Steps p.tables e below (T123.setTop (mkF m 153 #[.val (.ref a1), .val (.int p2), .val (.int p3), .val (.int p4), .unset] [(.int (0 : Int32)), (.ref b5)])) t → Steps p.tables e below (s₁.setTop (entryFrame m #[(.ref a1), (.int p2), (.int p3), (.int p4)] 5)) t := fun t k => ac122 t (st123 t k)
  have ac125 : ∀ t, Steps p.tables e below (T123.setTop (mkF m 154 #[.val (.ref a1), .val (.int p2), .val (.int p3), .val (.int p4), .unset] [(.int (0 : Int32)), (.int (0 : Int32)), (.ref b5)])) t → Steps p.tables e below (s₁.setTop (entryFrame m #[(.ref a1), (.int p2), (.int p3), (.int p4)] 5)) t := fun t k => ac124 t (by
      show Steps p.tables e below (T123.setTop (mkF m 153 #[.val (.ref a1), .val (.int p2), .val (.int p3), .val (.int p4), .unset] [(.int (0 : Int32)), (.ref b5)])) _
      refine XS.iconst X123.here hx rfl (hb hby d6_153) ?_
      exact k)
  obtain ⟨cl126, Ac126, hin126, -⟩ := Vf111.at (j := (0 : Int32)) (i := 0) rfl (by decide)
  obtain ⟨T126, h126, X126, e126, W126, st126⟩ := stI X123 hx hZ e123 Ac126 (j := (0 : Int32)) hin126 (g := (mkF m 154 #[.val (.ref a1), .val (.int p2), .val (.int p3), .val (.int p4), .unset] [(.int (0 : Int32)), (.int (0 : Int32)), (.ref b5)])) rfl rfl (hb hby d6_154)
  have V126 := Vf111.set (i := 0) rfl W126 rfl
  have Ef127 := Ef103.wr W126
  have Ff128 := Ff104.other W126 (Or.inl ne_a1_b5)
  have Ff129 := Ff105.other W126 (Or.inl ne_a1_b5)
  have Ff130 := Ff106.other W126 (Or.inl ne_a1_b5)
  have Ff131 := Ff107.other W126 (Or.inl ne_a1_b5)
  have Ff132 := Ff108.other W126 (Or.inl ne_a1_b5)
  have Ff133 := Ff109.other W126 (Or.inl ne_a1_b5)
  have Ff134 := Ff110.other W126 (Or.inl ne_a1_b5)
  have Ff135 := Ff112.other W126 (Or.inl ne_a1_b5)
  have Vf136 := Vf113.other W126 (Ne.symm ne_b5_bB9)
  have Vf137 := Vf114.other W126 ne_b1_b5
  have Vf138 := Vf115.other W126 ne_b2_b5
  have Vf139 := Vf116.other W126 ne_b3_b5
  have Vf140 := V102.other W126 ne_b4_b5
  have N126 := Fr.snoc X126 N102 g_b5
  have Z126 : n0 ≤ h126.size := Nat.le_trans Z102 (Keep.of_wr W126).1
  have Kp141 : Keep h0 h126 [a1, b1, b2, b3, b4, b5] := Kp117.wr W126 (Or.inl (List.mem_of_getElem? (i := 5) rfl))
  have ac142 : ∀ t, Steps p.tables e below (T126.setTop (mkF m 155 #[.val (.ref a1), .val (.int p2), .val (.int p3), .val (.int p4), .unset] [])) t → Steps p.tables e below (s₁.setTop (entryFrame m #[(.ref a1), (.int p2), (.int p3), (.int p4)] 5)) t := fun t k => ac125 t (st126 t k)
  have ac143 : ∀ t, Steps p.tables e below (T126.setTop (mkF m 157 #[.val (.ref a1), .val (.int p2), .val (.int p3), .val (.int p4), .unset] [(.ref a1), (.ref a1)])) t → Steps p.tables e below (s₁.setTop (entryFrame m #[(.ref a1), (.int p2), (.int p3), (.int p4)] 5)) t := fun t k => ac142 t (by
      show Steps p.tables e below (T126.setTop (mkF m 155 #[.val (.ref a1), .val (.int p2), .val (.int p3), .val (.int p4), .unset] [])) _
      refine XS.aloadN X126.here hx rfl (hb hby d6_155) rfl rfl ?_
      show Steps p.tables e below (T126.setTop (mkF m 156 #[.val (.ref a1), .val (.int p2), .val (.int p3), .val (.int p4), .unset] [(.ref a1)])) _
      refine XS.dup X126.here hx rfl (hb hby d6_156) rfl rfl ?_
      exact k)
  obtain ⟨T144, X144, e144, st144⟩ := getF X126 hx hZ hown (host := "") (Or.inl (hw _ (List.mem_of_getElem? (i := 33) rfl))) Via.refl e126 Ff128 (g := (mkF m 157 #[.val (.ref a1), .val (.int p2), .val (.int p3), .val (.int p4), .unset] [(.ref a1), (.ref a1)])) rfl rfl (hb hby d6_157)
  have ac145 : ∀ t, Steps p.tables e below (T144.setTop (mkF m 160 #[.val (.ref a1), .val (.int p2), .val (.int p3), .val (.int p4), .unset] [(.int (0 : Int32)), (.ref a1)])) t → Steps p.tables e below (s₁.setTop (entryFrame m #[(.ref a1), (.int p2), (.int p3), (.int p4)] 5)) t := fun t k => ac143 t (st144 t k)
  have ac146 : ∀ t, Steps p.tables e below (T144.setTop (mkF m 162 #[.val (.ref a1), .val (.int p2), .val (.int p3), .val (.int p4), .unset] [(.int ((0 : Int32) + (1 : Int32))), (.ref a1)])) t → Steps p.tables e below (s₁.setTop (entryFrame m #[(.ref a1), (.int p2), (.int p3), (.int p4)] 5)) t := fun t k => ac145 t (by
      show Steps p.tables e below (T144.setTop (mkF m 160 #[.val (.ref a1), .val (.int p2), .val (.int p3), .val (.int p4), .unset] [(.int (0 : Int32)), (.ref a1)])) _
      refine XS.iconst X144.here hx rfl (hb hby d6_160) ?_
      show Steps p.tables e below (T144.setTop (mkF m 161 #[.val (.ref a1), .val (.int p2), .val (.int p3), .val (.int p4), .unset] [(.int (1 : Int32)), (.int (0 : Int32)), (.ref a1)])) _
      refine XS.iadd X144.here hx rfl (hb hby d6_161) rfl ?_
      exact k)
  obtain ⟨T147, h147, X147, e147, W147, st147⟩ := putF X144 hx hZ hown (host := "") (Or.inl (hw _ (List.mem_of_getElem? (i := 33) rfl))) Via.refl e144 Ff128 Ef127 (Or.inl (hw _ (List.mem_of_getElem? (i := 34) rfl))) (hw _ (List.mem_of_getElem? (i := 1) rfl)) (ty := .int) (by decide) rfl rfl (g := (mkF m 162 #[.val (.ref a1), .val (.int p2), .val (.int p3), .val (.int p4), .unset] [(.int ((0 : Int32) + (1 : Int32))), (.ref a1)])) rfl rfl (hb hby d6_162)
  have Fw147 := Ff128.same W147
  have Ef148 := Ef127.wr W147
  have Ff149 := Ff129.other W147 (Or.inr (slot_ne (Or.inl (hw _ (List.mem_of_getElem? (i := 36) rfl))) (Or.inl (hw _ (List.mem_of_getElem? (i := 34) rfl))) (by decide) (t := .int) (t' := .int) (by decide) (by decide)))
  have Ff150 := Ff130.other W147 (Or.inr (slot_ne (Or.inl (hw _ (List.mem_of_getElem? (i := 11) rfl))) (Or.inl (hw _ (List.mem_of_getElem? (i := 34) rfl))) (by decide) (t := (.array .int)) (t' := .int) (by decide) (by decide)))
  have Ff151 := Ff131.other W147 (Or.inr (slot_ne (Or.inl (hw _ (List.mem_of_getElem? (i := 13) rfl))) (Or.inl (hw _ (List.mem_of_getElem? (i := 34) rfl))) (by decide) (t := (.array .int)) (t' := .int) (by decide) (by decide)))
  have Ff152 := Ff132.other W147 (Or.inr (slot_ne (Or.inl (hw _ (List.mem_of_getElem? (i := 15) rfl))) (Or.inl (hw _ (List.mem_of_getElem? (i := 34) rfl))) (by decide) (t := (.array .int)) (t' := .int) (by decide) (by decide)))
  have Ff153 := Ff133.other W147 (Or.inr (slot_ne (Or.inl (hw _ (List.mem_of_getElem? (i := 17) rfl))) (Or.inl (hw _ (List.mem_of_getElem? (i := 34) rfl))) (by decide) (t := (.array .int)) (t' := .int) (by decide) (by decide)))
  have Ff154 := Ff134.other W147 (Or.inr (slot_ne (Or.inl (hw _ (List.mem_of_getElem? (i := 19) rfl))) (Or.inl (hw _ (List.mem_of_getElem? (i := 34) rfl))) (by decide) (t := (.array .int)) (t' := .int) (by decide) (by decide)))
  have Ff155 := Ff135.other W147 (Or.inr (slot_ne (Or.inl (hw _ (List.mem_of_getElem? (i := 22) rfl))) (Or.inl (hw _ (List.mem_of_getElem? (i := 34) rfl))) (by decide) (t := (.array .byte)) (t' := .int) (by decide) (by decide)))
  have Vf156 := Vf136.other W147 (Ne.symm ne_a1_bB9)
  have Vf157 := Vf137.other W147 (Ne.symm ne_a1_b1)
  have Vf158 := Vf138.other W147 (Ne.symm ne_a1_b2)
  have Vf159 := Vf139.other W147 (Ne.symm ne_a1_b3)
  have Vf160 := Vf140.other W147 (Ne.symm ne_a1_b4)
  have Vf161 := V126.other W147 (Ne.symm ne_a1_b5)
  have N147 := Fr.snoc X147 N126 g_a1
  have Z147 : n0 ≤ h147.size := Nat.le_trans Z126 (Keep.of_wr W147).1
  have Kp162 : Keep h0 h147 [a1, b1, b2, b3, b4, b5] := Kp141.wr W147 (Or.inl (List.mem_of_getElem? (i := 0) rfl))
  have ac163 : ∀ t, Steps p.tables e below (T147.setTop (mkF m 165 #[.val (.ref a1), .val (.int p2), .val (.int p3), .val (.int p4), .unset] [])) t → Steps p.tables e below (s₁.setTop (entryFrame m #[(.ref a1), (.int p2), (.int p3), (.int p4)] 5)) t := fun t k => ac146 t (st147 t k)
  have ac164 : ∀ t, Steps p.tables e below (T147.setTop (mkF m 166 #[.val (.ref a1), .val (.int p2), .val (.int p3), .val (.int p4), .unset] [(.ref a1)])) t → Steps p.tables e below (s₁.setTop (entryFrame m #[(.ref a1), (.int p2), (.int p3), (.int p4)] 5)) t := fun t k => ac163 t (by
      show Steps p.tables e below (T147.setTop (mkF m 165 #[.val (.ref a1), .val (.int p2), .val (.int p3), .val (.int p4), .unset] [])) _
      refine XS.aloadN X147.here hx rfl (hb hby d6_165) rfl rfl ?_
      exact k)
  obtain ⟨T165, X165, e165, st165⟩ := getF X147 hx hZ hown (host := "") (Or.inl (hw _ (List.mem_of_getElem? (i := 35) rfl))) Via.refl e147 Ff149 (g := (mkF m 166 #[.val (.ref a1), .val (.int p2), .val (.int p3), .val (.int p4), .unset] [(.ref a1)])) rfl rfl (hb hby d6_166)
  have ac166 : ∀ t, Steps p.tables e below (T165.setTop (mkF m 169 #[.val (.ref a1), .val (.int p2), .val (.int p3), .val (.int p4), .unset] [(.int (0 : Int32))])) t → Steps p.tables e below (s₁.setTop (entryFrame m #[(.ref a1), (.int p2), (.int p3), (.int p4)] 5)) t := fun t k => ac164 t (st165 t k)
  obtain ⟨fs, hr, hrun, hended, hW, hsame⟩ := X165.leave (v := some (.int (0 : Int32))) (fun h => by rw [Bd.returns] at h; cases h) (BodyLoose.notSynchronized Bd)
  refine ⟨_, _, ac166 _ ?_, hrun, hended, _, _, rfl, ?_, ⟨_, rfl⟩, hW, hsame.mono (by decide) (by decide)⟩
  · show Steps p.tables e below (T165.setTop (mkF m 169 #[.val (.ref a1), .val (.int p2), .val (.int p3), .val (.int p4), .unset] [(.int (0 : Int32))])) _
    exact retI X165 hx Bd.returns (hb hby d6_169) hr
  · show Q6g Z a1 p2 p3 p4 b1 b2 b3 b4 b5 bB f1 f2 f3 f4 f5 fB rn h0 n0 _ T165.heap _
    rw [e165]
    exact ⟨_, _, _, _, _, bB9, nB9, _, rfl, N147, Kp162, rfl, h19, h29, sz9, ⟨Ef148, Fw147, Ff149, Ff150, Ff151, Ff152, Ff153, Ff154, Ff155, Vf157, Vf158, Vf159, Vf160, Vf161, Vf156, ne_a1_b1, ne_a1_b2, ne_a1_b3, ne_a1_b4, ne_a1_b5, ne_a1_bB9, ne_b1_b2, ne_b1_b3, ne_b1_b4, ne_b1_b5, ne_b1_bB9, ne_b2_b3, ne_b2_b4, ne_b2_b5, ne_b2_bB9, ne_b3_b4, ne_b3_b5, ne_b3_bB9, ne_b4_b5, ne_b4_bB9, ne_b5_bB9, g_b1, g_b2, g_b3, g_b4, g_b5, g_bB9⟩⟩
theorem ef_rm9 (m : MethodId) (x0 : Addr) (x1 : Int32) (x2 : Int32) : entryFrame m #[(.ref x0), (.int x1), (.int x2)] 3 = mkF m 0 #[.val (.ref x0), .val (.int x1), .val (.int x2)] [] := by first | (simp [entryFrame, mkF, argsToLocals, Value.category]; done) | rfl
def Q9 (Z : State) (a1 : Addr) (p2 : Int32) (p3 : Int32) (b1 : Addr) (b2 : Addr) (b3 : Addr) (b4 : Addr) (b5 : Addr) (bB : Addr) (f1 : Nat → Value) (f2 : Nat → Value) (f3 : Nat → Value) (f4 : Nat → Value) (f5 : Nat → Value) (fB : Nat → Value) (nB : Nat) (h0 : Heap) (n0 : Nat) (v : Option Value) (h : Heap) (L : List Loc) : Prop := ∃ (f4' : Nat → Value) (f5' : Nat → Value), v = none ∧ Fr n0 L ∧ Keep h0 h [a1, b4, b5] ∧ own_T Z h n0 a1 ((0 : Int32) + (1 : Int32)) p2 b1 b2 b3 b4 b5 bB f1 f2 f3 f4' f5' nB fB
set_option maxRecDepth 65536 in
set_option maxHeartbeats 40000000 in
theorem rm9 (l : Launch) (Z : State) (a0 : Array Value) (hw : ∀ d ∈ tables_1, d.before a0 Z = true) (ws : List Jvm.Cond) (a1 : Addr) (p2 : Int32) (p3 : Int32) (b1 : Addr) (b2 : Addr) (b3 : Addr) (b4 : Addr) (b5 : Addr) (bB : Addr) (f1 : Nat → Value) (f2 : Nat → Value) (f3 : Nat → Value) (f4 : Nat → Value) (f5 : Nat → Value) (fB : Nat → Value) (nB : Nat) (h0 : Heap) (n0 : Nat) (Z0 : n0 ≤ h0.size) (HB : own_T Z h0 n0 a1 ((0 : Int32) + (1 : Int32)) 0 b1 b2 b3 b4 b5 bB f1 f2 f3 f4 f5 nB fB) (g_a1 : n0 ≤ a1) :
    MetFree l (⟨"com/example/termwright/termwright/TokenList", "endTerm", "(II)V"⟩ : MethodName) (head1 (Jvm.Cond.code (⟨"com/example/termwright/termwright/TokenList", "endTerm", "(II)V"⟩ : MethodName) prog_224_method_12_code 3 none :: ws) ({ frames := 0, cells := 0, slots := 0, locals := 0 } : Room)) (fun a U => a = #[(.ref a1), (.int p2), (.int p3)] ∧ Z.Warmed39 U.vm ∧ U.heap = h0) (fun _ _ _ _ _ => True) (fun _ U o U' => ∃ v L, o = .returned v ∧ Q9 Z a1 p2 p3 b1 b2 b3 b4 b5 bB f1 f2 f3 f4 f5 fB nB h0 n0 v U'.heap L ∧ FrameEnd U o U' L ({ frames := 0, cells := 0, slots := 0, locals := 0 } : Room).cells ({ frames := 0, cells := 0, slots := 0, locals := 0 } : Room).slots) := by
  refine MetFree.of_bodySF (plainFor_of_name pn_9) hisR ?_
  intro p e s m args below meth c s₁ Bd hml0 hP hK
  obtain ⟨rfl, hZ, hh⟩ := hP
  have hx := Bd.exec
  have hby := Bd.bytes
  have hml : c.maxLocals = 3 := hml0
  have hown : s.vm.findClass "com/example/termwright/termwright/TokenList" = some m.cls := findClass_of_methodNamed Bd.named
  have hnm := (name_of_methodNamed Bd.named Bd.method).1
  have X0 : Stand p l e ({ frames := 0, cells := 0, slots := 0, locals := 0 } : Room) s m #[(.ref a1), (.int p2), (.int p3)] below meth c s₁ [] 0 0 := Stand.of_body Bd
  have e0 : s₁.heap = h0 := by rw [← hh, Bd.state]; rfl
  have N0 := Fr.nil n0
  have a0s : ∀ t, Steps p.tables e below (s₁.setTop (mkF m 0 #[.val (.ref a1), .val (.int p2), .val (.int p3)] [])) t → Steps p.tables e below (s₁.setTop (entryFrame m #[(.ref a1), (.int p2), (.int p3)] 3)) t := fun t k => castTop (ef_rm9 m a1 p2 p3) k
  obtain ⟨E1, F_sz, F_us, F_0, F_1, F_2, F_3, F_4, F_tb, V_0, V_1, V_2, V_3, V_4, V_5, ne_a1_b1, ne_a1_b2, ne_a1_b3, ne_a1_b4, ne_a1_b5, ne_a1_bB, ne_b1_b2, ne_b1_b3, ne_b1_b4, ne_b1_b5, ne_b1_bB, ne_b2_b3, ne_b2_b4, ne_b2_b5, ne_b2_bB, ne_b3_b4, ne_b3_b5, ne_b3_bB, ne_b4_b5, ne_b4_bB, ne_b5_bB, g_b1, g_b2, g_b3, g_b4, g_b5, g_bB⟩ := id HB
  have ac1 : ∀ t, Steps p.tables e below (s₁.setTop (mkF m 2 #[.val (.ref a1), .val (.int p2), .val (.int p3)] [(.int p2), (.ref a1)])) t → Steps p.tables e below (s₁.setTop (entryFrame m #[(.ref a1), (.int p2), (.int p3)] 3)) t := fun t k => a0s t (by
      show Steps p.tables e below (s₁.setTop (mkF m 0 #[.val (.ref a1), .val (.int p2), .val (.int p3)] [])) _
      refine XS.aloadN X0.here hx rfl (hb hby d9_0) rfl rfl ?_
      show Steps p.tables e below (s₁.setTop (mkF m 1 #[.val (.ref a1), .val (.int p2), .val (.int p3)] [(.ref a1)])) _
      refine XS.iloadN X0.here hx rfl (hb hby d9_1) rfl ?_
      exact k)
  obtain ⟨T2, h2, X2, e2, W2, st2⟩ := putF X0 hx hZ hown (host := "") (Or.inl (hw _ (List.mem_of_getElem? (i := 35) rfl))) Via.refl e0 F_us E1 (Or.inl (hw _ (List.mem_of_getElem? (i := 36) rfl))) (hw _ (List.mem_of_getElem? (i := 1) rfl)) (ty := .int) (by decide) rfl rfl (g := (mkF m 2 #[.val (.ref a1), .val (.int p2), .val (.int p3)] [(.int p2), (.ref a1)])) rfl rfl (hb hby d9_2)
  have Fw2 := F_us.same W2
  have Ef3 := E1.wr W2
  have Ff4 := F_sz.other W2 (Or.inr (slot_ne (Or.inl (hw _ (List.mem_of_getElem? (i := 34) rfl))) (Or.inl (hw _ (List.mem_of_getElem? (i := 36) rfl))) (by decide) (t := .int) (t' := .int) (by decide) (by decide)))
  have Ff5 := F_0.other W2 (Or.inr (slot_ne (Or.inl (hw _ (List.mem_of_getElem? (i := 11) rfl))) (Or.inl (hw _ (List.mem_of_getElem? (i := 36) rfl))) (by decide) (t := (.array .int)) (t' := .int) (by decide) (by decide)))
  have Vf6 := V_0.other W2 (Ne.symm ne_a1_b1)
  have Ff7 := F_1.other W2 (Or.inr (slot_ne (Or.inl (hw _ (List.mem_of_getElem? (i := 13) rfl))) (Or.inl (hw _ (List.mem_of_getElem? (i := 36) rfl))) (by decide) (t := (.array .int)) (t' := .int) (by decide) (by decide)))
  have Vf8 := V_1.other W2 (Ne.symm ne_a1_b2)
  have Ff9 := F_2.other W2 (Or.inr (slot_ne (Or.inl (hw _ (List.mem_of_getElem? (i := 15) rfl))) (Or.inl (hw _ (List.mem_of_getElem? (i := 36) rfl))) (by decide) (t := (.array .int)) (t' := .int) (by decide) (by decide)))
  have Vf10 := V_2.other W2 (Ne.symm ne_a1_b3)
  have Ff11 := F_3.other W2 (Or.inr (slot_ne (Or.inl (hw _ (List.mem_of_getElem? (i := 17) rfl))) (Or.inl (hw _ (List.mem_of_getElem? (i := 36) rfl))) (by decide) (t := (.array .int)) (t' := .int) (by decide) (by decide)))
  have Vf12 := V_3.other W2 (Ne.symm ne_a1_b4)
  have Ff13 := F_4.other W2 (Or.inr (slot_ne (Or.inl (hw _ (List.mem_of_getElem? (i := 19) rfl))) (Or.inl (hw _ (List.mem_of_getElem? (i := 36) rfl))) (by decide) (t := (.array .int)) (t' := .int) (by decide) (by decide)))
  have Vf14 := V_4.other W2 (Ne.symm ne_a1_b5)
  have Ff15 := F_tb.other W2 (Or.inr (slot_ne (Or.inl (hw _ (List.mem_of_getElem? (i := 22) rfl))) (Or.inl (hw _ (List.mem_of_getElem? (i := 36) rfl))) (by decide) (t := (.array .byte)) (t' := .int) (by decide) (by decide)))
  have Vf16 := V_5.other W2 (Ne.symm ne_a1_bB)
  have N2 := Fr.snoc X2 N0 g_a1
  have Z2 : n0 ≤ h2.size := Nat.le_trans Z0 (Keep.of_wr W2).1
  have Kp17 : Keep h0 h2 [a1, b4, b5] := (Keep.refl h0 [a1, b4, b5]).wr W2 (Or.inl (List.mem_of_getElem? (i := 0) rfl))
  have ac18 : ∀ t, Steps p.tables e below (T2.setTop (mkF m 5 #[.val (.ref a1), .val (.int p2), .val (.int p3)] [])) t → Steps p.tables e below (s₁.setTop (entryFrame m #[(.ref a1), (.int p2), (.int p3)] 3)) t := fun t k => ac1 t (st2 t k)
  have ac19 : ∀ t, Steps p.tables e below (T2.setTop (mkF m 6 #[.val (.ref a1), .val (.int p2), .val (.int p3)] [(.ref a1)])) t → Steps p.tables e below (s₁.setTop (entryFrame m #[(.ref a1), (.int p2), (.int p3)] 3)) t := fun t k => ac18 t (by
      show Steps p.tables e below (T2.setTop (mkF m 5 #[.val (.ref a1), .val (.int p2), .val (.int p3)] [])) _
      refine XS.aloadN X2.here hx rfl (hb hby d9_5) rfl rfl ?_
      exact k)
  obtain ⟨T20, X20, e20, st20⟩ := getF X2 hx hZ hown (host := "") (Or.inl (hw _ (List.mem_of_getElem? (i := 16) rfl))) Via.refl e2 Ff11 (g := (mkF m 6 #[.val (.ref a1), .val (.int p2), .val (.int p3)] [(.ref a1)])) rfl rfl (hb hby d9_6)
  have ac21 : ∀ t, Steps p.tables e below (T20.setTop (mkF m 9 #[.val (.ref a1), .val (.int p2), .val (.int p3)] [(.ref b4)])) t → Steps p.tables e below (s₁.setTop (entryFrame m #[(.ref a1), (.int p2), (.int p3)] 3)) t := fun t k => ac19 t (st20 t k)
  have ac22 : ∀ t, Steps p.tables e below (T20.setTop (mkF m 10 #[.val (.ref a1), .val (.int p2), .val (.int p3)] [(.ref a1), (.ref b4)])) t → Steps p.tables e below (s₁.setTop (entryFrame m #[(.ref a1), (.int p2), (.int p3)] 3)) t := fun t k => ac21 t (by
      show Steps p.tables e below (T20.setTop (mkF m 9 #[.val (.ref a1), .val (.int p2), .val (.int p3)] [(.ref b4)])) _
      refine XS.aloadN X20.here hx rfl (hb hby d9_9) rfl rfl ?_
      exact k)
  obtain ⟨T23, X23, e23, st23⟩ := getF X20 hx hZ hown (host := "") (Or.inl (hw _ (List.mem_of_getElem? (i := 33) rfl))) Via.refl e20 Ff4 (g := (mkF m 10 #[.val (.ref a1), .val (.int p2), .val (.int p3)] [(.ref a1), (.ref b4)])) rfl rfl (hb hby d9_10)
  have ac24 : ∀ t, Steps p.tables e below (T23.setTop (mkF m 13 #[.val (.ref a1), .val (.int p2), .val (.int p3)] [(.int ((0 : Int32) + (1 : Int32))), (.ref b4)])) t → Steps p.tables e below (s₁.setTop (entryFrame m #[(.ref a1), (.int p2), (.int p3)] 3)) t := fun t k => ac22 t (st23 t k)
  have ac25 : ∀ t, Steps p.tables e below (T23.setTop (mkF m 16 #[.val (.ref a1), .val (.int p2), .val (.int p3)] [(.int p2), (.int (((0 : Int32) + (1 : Int32)) - (1 : Int32))), (.ref b4)])) t → Steps p.tables e below (s₁.setTop (entryFrame m #[(.ref a1), (.int p2), (.int p3)] 3)) t := fun t k => ac24 t (by
      show Steps p.tables e below (T23.setTop (mkF m 13 #[.val (.ref a1), .val (.int p2), .val (.int p3)] [(.int ((0 : Int32) + (1 : Int32))), (.ref b4)])) _
      refine XS.iconst X23.here hx rfl (hb hby d9_13) ?_
      show Steps p.tables e below (T23.setTop (mkF m 14 #[.val (.ref a1), .val (.int p2), .val (.int p3)] [(.int (1 : Int32)), (.int ((0 : Int32) + (1 : Int32))), (.ref b4)])) _
      refine XS.isub X23.here hx rfl (hb hby d9_14) rfl ?_
      show Steps p.tables e below (T23.setTop (mkF m 15 #[.val (.ref a1), .val (.int p2), .val (.int p3)] [(.int (((0 : Int32) + (1 : Int32)) - (1 : Int32))), (.ref b4)])) _
      refine XS.iloadN X23.here hx rfl (hb hby d9_15) rfl ?_
      exact k)
  obtain ⟨cl26, Ac26, hin26, -⟩ := Vf12.at (j := (((0 : Int32) + (1 : Int32)) - (1 : Int32))) (i := 0) own_dec1 (by decide)
  obtain ⟨T26, h26, X26, e26, W26, st26⟩ := stI X23 hx hZ e23 Ac26 (j := (((0 : Int32) + (1 : Int32)) - (1 : Int32))) hin26 (g := (mkF m 16 #[.val (.ref a1), .val (.int p2), .val (.int p3)] [(.int p2), (.int (((0 : Int32) + (1 : Int32)) - (1 : Int32))), (.ref b4)])) rfl rfl (hb hby d9_16)
  have V26 := Vf12.set (i := 0) own_dec1 W26 rfl
  have Ef27 := Ef3.wr W26
  have Ff28 := Ff4.other W26 (Or.inl ne_a1_b4)
  have Ff29 := Ff5.other W26 (Or.inl ne_a1_b4)
  have Vf30 := Vf6.other W26 ne_b1_b4
  have Ff31 := Ff7.other W26 (Or.inl ne_a1_b4)
  have Vf32 := Vf8.other W26 ne_b2_b4
  have Ff33 := Ff9.other W26 (Or.inl ne_a1_b4)
  have Vf34 := Vf10.other W26 ne_b3_b4
  have Ff35 := Ff11.other W26 (Or.inl ne_a1_b4)
  have Ff36 := Ff13.other W26 (Or.inl ne_a1_b4)
  have Vf37 := Vf14.other W26 (Ne.symm ne_b4_b5)
  have Ff38 := Ff15.other W26 (Or.inl ne_a1_b4)
  have Vf39 := Vf16.other W26 (Ne.symm ne_b4_bB)
  have Ff40 := Fw2.other W26 (Or.inl ne_a1_b4)
  have N26 := Fr.snoc X26 N2 g_b4
  have Z26 : n0 ≤ h26.size := Nat.le_trans Z2 (Keep.of_wr W26).1
  have Kp41 : Keep h0 h26 [a1, b4, b5] := Kp17.wr W26 (Or.inl (List.mem_of_getElem? (i := 1) rfl))
  have ac42 : ∀ t, Steps p.tables e below (T26.setTop (mkF m 17 #[.val (.ref a1), .val (.int p2), .val (.int p3)] [])) t → Steps p.tables e below (s₁.setTop (entryFrame m #[(.ref a1), (.int p2), (.int p3)] 3)) t := fun t k => ac25 t (st26 t k)
  have ac43 : ∀ t, Steps p.tables e below (T26.setTop (mkF m 18 #[.val (.ref a1), .val (.int p2), .val (.int p3)] [(.ref a1)])) t → Steps p.tables e below (s₁.setTop (entryFrame m #[(.ref a1), (.int p2), (.int p3)] 3)) t := fun t k => ac42 t (by
      show Steps p.tables e below (T26.setTop (mkF m 17 #[.val (.ref a1), .val (.int p2), .val (.int p3)] [])) _
      refine XS.aloadN X26.here hx rfl (hb hby d9_17) rfl rfl ?_
      exact k)
  obtain ⟨T44, X44, e44, st44⟩ := getF X26 hx hZ hown (host := "") (Or.inl (hw _ (List.mem_of_getElem? (i := 18) rfl))) Via.refl e26 Ff36 (g := (mkF m 18 #[.val (.ref a1), .val (.int p2), .val (.int p3)] [(.ref a1)])) rfl rfl (hb hby d9_18)
  have ac45 : ∀ t, Steps p.tables e below (T44.setTop (mkF m 21 #[.val (.ref a1), .val (.int p2), .val (.int p3)] [(.ref b5)])) t → Steps p.tables e below (s₁.setTop (entryFrame m #[(.ref a1), (.int p2), (.int p3)] 3)) t := fun t k => ac43 t (st44 t k)
  have ac46 : ∀ t, Steps p.tables e below (T44.setTop (mkF m 22 #[.val (.ref a1), .val (.int p2), .val (.int p3)] [(.ref a1), (.ref b5)])) t → Steps p.tables e below (s₁.setTop (entryFrame m #[(.ref a1), (.int p2), (.int p3)] 3)) t := fun t k => ac45 t (by
      show Steps p.tables e below (T44.setTop (mkF m 21 #[.val (.ref a1), .val (.int p2), .val (.int p3)] [(.ref b5)])) _
      refine XS.aloadN X44.here hx rfl (hb hby d9_21) rfl rfl ?_
      exact k)
  obtain ⟨T47, X47, e47, st47⟩ := getF X44 hx hZ hown (host := "") (Or.inl (hw _ (List.mem_of_getElem? (i := 33) rfl))) Via.refl e44 Ff28 (g := (mkF m 22 #[.val (.ref a1), .val (.int p2), .val (.int p3)] [(.ref a1), (.ref b5)])) rfl rfl (hb hby d9_22)
  have ac48 : ∀ t, Steps p.tables e below (T47.setTop (mkF m 25 #[.val (.ref a1), .val (.int p2), .val (.int p3)] [(.int ((0 : Int32) + (1 : Int32))), (.ref b5)])) t → Steps p.tables e below (s₁.setTop (entryFrame m #[(.ref a1), (.int p2), (.int p3)] 3)) t := fun t k => ac46 t (st47 t k)
  have ac49 : ∀ t, Steps p.tables e below (T47.setTop (mkF m 28 #[.val (.ref a1), .val (.int p2), .val (.int p3)] [(.int p3), (.int (((0 : Int32) + (1 : Int32)) - (1 : Int32))), (.ref b5)])) t → Steps p.tables e below (s₁.setTop (entryFrame m #[(.ref a1), (.int p2), (.int p3)] 3)) t := fun t k => ac48 t (by
      show Steps p.tables e below (T47.setTop (mkF m 25 #[.val (.ref a1), .val (.int p2), .val (.int p3)] [(.int ((0 : Int32) + (1 : Int32))), (.ref b5)])) _
      refine XS.iconst X47.here hx rfl (hb hby d9_25) ?_
      show Steps p.tables e below (T47.setTop (mkF m 26 #[.val (.ref a1), .val (.int p2), .val (.int p3)] [(.int (1 : Int32)), (.int ((0 : Int32) + (1 : Int32))), (.ref b5)])) _
      refine XS.isub X47.here hx rfl (hb hby d9_26) rfl ?_
      show Steps p.tables e below (T47.setTop (mkF m 27 #[.val (.ref a1), .val (.int p2), .val (.int p3)] [(.int (((0 : Int32) + (1 : Int32)) - (1 : Int32))), (.ref b5)])) _
      refine XS.iloadN X47.here hx rfl (hb hby d9_27) rfl ?_
      exact k)
  obtain ⟨cl50, Ac50, hin50, -⟩ := Vf37.at (j := (((0 : Int32) + (1 : Int32)) - (1 : Int32))) (i := 0) own_dec1 (by decide)
  obtain ⟨T50, h50, X50, e50, W50, st50⟩ := stI X47 hx hZ e47 Ac50 (j := (((0 : Int32) + (1 : Int32)) - (1 : Int32))) hin50 (g := (mkF m 28 #[.val (.ref a1), .val (.int p2), .val (.int p3)] [(.int p3), (.int (((0 : Int32) + (1 : Int32)) - (1 : Int32))), (.ref b5)])) rfl rfl (hb hby d9_28)
  have V50 := Vf37.set (i := 0) own_dec1 W50 rfl
  have Ef51 := Ef27.wr W50
  have Ff52 := Ff28.other W50 (Or.inl ne_a1_b5)
  have Ff53 := Ff29.other W50 (Or.inl ne_a1_b5)
  have Vf54 := Vf30.other W50 ne_b1_b5
  have Ff55 := Ff31.other W50 (Or.inl ne_a1_b5)
  have Vf56 := Vf32.other W50 ne_b2_b5
  have Ff57 := Ff33.other W50 (Or.inl ne_a1_b5)
  have Vf58 := Vf34.other W50 ne_b3_b5
  have Ff59 := Ff35.other W50 (Or.inl ne_a1_b5)
  have Ff60 := Ff36.other W50 (Or.inl ne_a1_b5)
  have Ff61 := Ff38.other W50 (Or.inl ne_a1_b5)
  have Vf62 := Vf39.other W50 (Ne.symm ne_b5_bB)
  have Ff63 := Ff40.other W50 (Or.inl ne_a1_b5)
  have Vf64 := V26.other W50 ne_b4_b5
  have N50 := Fr.snoc X50 N26 g_b5
  have Z50 : n0 ≤ h50.size := Nat.le_trans Z26 (Keep.of_wr W50).1
  have Kp65 : Keep h0 h50 [a1, b4, b5] := Kp41.wr W50 (Or.inl (List.mem_of_getElem? (i := 2) rfl))
  have ac66 : ∀ t, Steps p.tables e below (T50.setTop (mkF m 29 #[.val (.ref a1), .val (.int p2), .val (.int p3)] [])) t → Steps p.tables e below (s₁.setTop (entryFrame m #[(.ref a1), (.int p2), (.int p3)] 3)) t := fun t k => ac49 t (st50 t k)
  obtain ⟨fs, hr, hrun, hended, hW, hsame⟩ := X50.leave (v := none) (fun _ => rfl) (BodyLoose.notSynchronized Bd)
  refine ⟨_, _, ac66 _ ?_, hrun, hended, _, _, rfl, ?_, ⟨_, rfl⟩, hW, hsame.mono (by decide) (by decide)⟩
  · show Steps p.tables e below (T50.setTop (mkF m 29 #[.val (.ref a1), .val (.int p2), .val (.int p3)] [])) _
    exact X50.returnOut hx Bd.returns (hb hby d9_29) hr
  · show Q9 Z a1 p2 p3 b1 b2 b3 b4 b5 bB f1 f2 f3 f4 f5 fB nB h0 n0 _ T50.heap _
    rw [e50]
    exact ⟨_, _, rfl, N50, Kp65, ⟨Ef51, Ff52, Ff63, Ff53, Ff55, Ff57, Ff59, Ff60, Ff61, Vf54, Vf56, Vf58, Vf64, V50, Vf62, ne_a1_b1, ne_a1_b2, ne_a1_b3, ne_a1_b4, ne_a1_b5, ne_a1_bB, ne_b1_b2, ne_b1_b3, ne_b1_b4, ne_b1_b5, ne_b1_bB, ne_b2_b3, ne_b2_b4, ne_b2_b5, ne_b2_bB, ne_b3_b4, ne_b3_b5, ne_b3_bB, ne_b4_b5, ne_b4_bB, ne_b5_bB, g_b1, g_b2, g_b3, g_b4, g_b5, g_bB⟩⟩
theorem ef_rm4n (m : MethodId) (x0 : Addr) : entryFrame m #[(.ref x0)] 1 = mkF m 0 #[.val (.ref x0)] [] := by first | (simp [entryFrame, mkF, argsToLocals, Value.category]; done) | rfl
def Q4n (Z : State) (a1 : Addr) (sz : Int32) (used : Int32) (b1 : Addr) (b2 : Addr) (b3 : Addr) (b4 : Addr) (b5 : Addr) (bB : Addr) (f1 : Nat → Value) (f2 : Nat → Value) (f3 : Nat → Value) (f4 : Nat → Value) (f5 : Nat → Value) (fB : Nat → Value) (nB : Nat) (h0 : Heap) (n0 : Nat) (v : Option Value) (h : Heap) (L : List Loc) : Prop := v = none ∧ Fr n0 L ∧ Keep h0 h [a1] ∧ own_T Z h n0 a1 0 0 b1 b2 b3 b4 b5 bB f1 f2 f3 f4 f5 nB fB
set_option maxRecDepth 65536 in
set_option maxHeartbeats 40000000 in
theorem rm4n (l : Launch) (Z : State) (a0 : Array Value) (hw : ∀ d ∈ tables_1, d.before a0 Z = true) (ws : List Jvm.Cond) (a1 : Addr) (sz : Int32) (used : Int32) (b1 : Addr) (b2 : Addr) (b3 : Addr) (b4 : Addr) (b5 : Addr) (bB : Addr) (f1 : Nat → Value) (f2 : Nat → Value) (f3 : Nat → Value) (f4 : Nat → Value) (f5 : Nat → Value) (fB : Nat → Value) (nB : Nat) (h0 : Heap) (n0 : Nat) (Z0 : n0 ≤ h0.size) (HB : own_T Z h0 n0 a1 sz used b1 b2 b3 b4 b5 bB f1 f2 f3 f4 f5 nB fB) (g_a1 : n0 ≤ a1) (hn : nB ≤ 16384) :
    MetFree l (⟨"com/example/termwright/termwright/TokenList", "clear", "()V"⟩ : MethodName) (head1 (Jvm.Cond.code (⟨"com/example/termwright/termwright/TokenList", "clear", "()V"⟩ : MethodName) prog_224_method_2_code 1 none :: ws) ({ frames := 0, cells := 0, slots := 0, locals := 0 } : Room)) (fun a U => a = #[(.ref a1)] ∧ Z.Warmed39 U.vm ∧ U.heap = h0) (fun _ _ _ _ _ => True) (fun _ U o U' => ∃ v L, o = .returned v ∧ Q4n Z a1 sz used b1 b2 b3 b4 b5 bB f1 f2 f3 f4 f5 fB nB h0 n0 v U'.heap L ∧ FrameEnd U o U' L ({ frames := 0, cells := 0, slots := 0, locals := 0 } : Room).cells ({ frames := 0, cells := 0, slots := 0, locals := 0 } : Room).slots) := by
  refine MetFree.of_bodySF (plainFor_of_name pn_4) hisR ?_
  intro p e s m args below meth c s₁ Bd hml0 hP hK
  obtain ⟨rfl, hZ, hh⟩ := hP
  have hx := Bd.exec
  have hby := Bd.bytes
  have hml : c.maxLocals = 1 := hml0
  have hown : s.vm.findClass "com/example/termwright/termwright/TokenList" = some m.cls := findClass_of_methodNamed Bd.named
  have hnm := (name_of_methodNamed Bd.named Bd.method).1
  have X0 : Stand p l e ({ frames := 0, cells := 0, slots := 0, locals := 0 } : Room) s m #[(.ref a1)] below meth c s₁ [] 0 0 := Stand.of_body Bd
  have e0 : s₁.heap = h0 := by rw [← hh, Bd.state]; rfl
  have N0 := Fr.nil n0
  have a0s : ∀ t, Steps p.tables e below (s₁.setTop (mkF m 0 #[.val (.ref a1)] [])) t → Steps p.tables e below (s₁.setTop (entryFrame m #[(.ref a1)] 1)) t := fun t k => castTop (ef_rm4n m a1) k
  obtain ⟨E1, F_sz, F_us, F_0, F_1, F_2, F_3, F_4, F_tb, V_0, V_1, V_2, V_3, V_4, V_5, ne_a1_b1, ne_a1_b2, ne_a1_b3, ne_a1_b4, ne_a1_b5, ne_a1_bB, ne_b1_b2, ne_b1_b3, ne_b1_b4, ne_b1_b5, ne_b1_bB, ne_b2_b3, ne_b2_b4, ne_b2_b5, ne_b2_bB, ne_b3_b4, ne_b3_b5, ne_b3_bB, ne_b4_b5, ne_b4_bB, ne_b5_bB, g_b1, g_b2, g_b3, g_b4, g_b5, g_bB⟩ := id HB
  have ac1 : ∀ t, Steps p.tables e below (s₁.setTop (mkF m 2 #[.val (.ref a1)] [(.int (0 : Int32)), (.ref a1)])) t → Steps p.tables e below (s₁.setTop (entryFrame m #[(.ref a1)] 1)) t := fun t k => a0s t (by
      show Steps p.tables e below (s₁.setTop (mkF m 0 #[.val (.ref a1)] [])) _
      refine XS.aloadN X0.here hx rfl (hb hby d4_0) rfl rfl ?_
      show Steps p.tables e below (s₁.setTop (mkF m 1 #[.val (.ref a1)] [(.ref a1)])) _
      refine XS.iconst X0.here hx rfl (hb hby d4_1) ?_
      exact k)
  obtain ⟨T2, h2, X2, e2, W2, st2⟩ := putF X0 hx hZ hown (host := "") (Or.inl (hw _ (List.mem_of_getElem? (i := 33) rfl))) Via.refl e0 F_sz E1 (Or.inl (hw _ (List.mem_of_getElem? (i := 34) rfl))) (hw _ (List.mem_of_getElem? (i := 1) rfl)) (ty := .int) (by decide) rfl rfl (g := (mkF m 2 #[.val (.ref a1)] [(.int (0 : Int32)), (.ref a1)])) rfl rfl (hb hby d4_2)
  have Fw2 := F_sz.same W2
  have Ef3 := E1.wr W2
  have Ff4 := F_us.other W2 (Or.inr (slot_ne (Or.inl (hw _ (List.mem_of_getElem? (i := 36) rfl))) (Or.inl (hw _ (List.mem_of_getElem? (i := 34) rfl))) (by decide) (t := .int) (t' := .int) (by decide) (by decide)))
  have Ff5 := F_0.other W2 (Or.inr (slot_ne (Or.inl (hw _ (List.mem_of_getElem? (i := 11) rfl))) (Or.inl (hw _ (List.mem_of_getElem? (i := 34) rfl))) (by decide) (t := (.array .int)) (t' := .int) (by decide) (by decide)))
  have Vf6 := V_0.other W2 (Ne.symm ne_a1_b1)
  have Ff7 := F_1.other W2 (Or.inr (slot_ne (Or.inl (hw _ (List.mem_of_getElem? (i := 13) rfl))) (Or.inl (hw _ (List.mem_of_getElem? (i := 34) rfl))) (by decide) (t := (.array .int)) (t' := .int) (by decide) (by decide)))
  have Vf8 := V_1.other W2 (Ne.symm ne_a1_b2)
  have Ff9 := F_2.other W2 (Or.inr (slot_ne (Or.inl (hw _ (List.mem_of_getElem? (i := 15) rfl))) (Or.inl (hw _ (List.mem_of_getElem? (i := 34) rfl))) (by decide) (t := (.array .int)) (t' := .int) (by decide) (by decide)))
  have Vf10 := V_2.other W2 (Ne.symm ne_a1_b3)
  have Ff11 := F_3.other W2 (Or.inr (slot_ne (Or.inl (hw _ (List.mem_of_getElem? (i := 17) rfl))) (Or.inl (hw _ (List.mem_of_getElem? (i := 34) rfl))) (by decide) (t := (.array .int)) (t' := .int) (by decide) (by decide)))
  have Vf12 := V_3.other W2 (Ne.symm ne_a1_b4)
  have Ff13 := F_4.other W2 (Or.inr (slot_ne (Or.inl (hw _ (List.mem_of_getElem? (i := 19) rfl))) (Or.inl (hw _ (List.mem_of_getElem? (i := 34) rfl))) (by decide) (t := (.array .int)) (t' := .int) (by decide) (by decide)))
  have Vf14 := V_4.other W2 (Ne.symm ne_a1_b5)
  have Ff15 := F_tb.other W2 (Or.inr (slot_ne (Or.inl (hw _ (List.mem_of_getElem? (i := 22) rfl))) (Or.inl (hw _ (List.mem_of_getElem? (i := 34) rfl))) (by decide) (t := (.array .byte)) (t' := .int) (by decide) (by decide)))
  have Vf16 := V_5.other W2 (Ne.symm ne_a1_bB)
  have N2 := Fr.snoc X2 N0 g_a1
  have Z2 : n0 ≤ h2.size := Nat.le_trans Z0 (Keep.of_wr W2).1
  have Kp17 : Keep h0 h2 [a1] := (Keep.refl h0 [a1]).wr W2 (Or.inl (List.mem_of_getElem? (i := 0) rfl))
  have ac18 : ∀ t, Steps p.tables e below (T2.setTop (mkF m 5 #[.val (.ref a1)] [])) t → Steps p.tables e below (s₁.setTop (entryFrame m #[(.ref a1)] 1)) t := fun t k => ac1 t (st2 t k)
  have ac19 : ∀ t, Steps p.tables e below (T2.setTop (mkF m 7 #[.val (.ref a1)] [(.int (0 : Int32)), (.ref a1)])) t → Steps p.tables e below (s₁.setTop (entryFrame m #[(.ref a1)] 1)) t := fun t k => ac18 t (by
      show Steps p.tables e below (T2.setTop (mkF m 5 #[.val (.ref a1)] [])) _
      refine XS.aloadN X2.here hx rfl (hb hby d4_5) rfl rfl ?_
      show Steps p.tables e below (T2.setTop (mkF m 6 #[.val (.ref a1)] [(.ref a1)])) _
      refine XS.iconst X2.here hx rfl (hb hby d4_6) ?_
      exact k)
  obtain ⟨T20, h20, X20, e20, W20, st20⟩ := putF X2 hx hZ hown (host := "") (Or.inl (hw _ (List.mem_of_getElem? (i := 35) rfl))) Via.refl e2 Ff4 Ef3 (Or.inl (hw _ (List.mem_of_getElem? (i := 36) rfl))) (hw _ (List.mem_of_getElem? (i := 1) rfl)) (ty := .int) (by decide) rfl rfl (g := (mkF m 7 #[.val (.ref a1)] [(.int (0 : Int32)), (.ref a1)])) rfl rfl (hb hby d4_7)
  have Fw20 := Ff4.same W20
  have Ef21 := Ef3.wr W20
  have Ff22 := Ff5.other W20 (Or.inr (slot_ne (Or.inl (hw _ (List.mem_of_getElem? (i := 11) rfl))) (Or.inl (hw _ (List.mem_of_getElem? (i := 36) rfl))) (by decide) (t := (.array .int)) (t' := .int) (by decide) (by decide)))
  have Vf23 := Vf6.other W20 (Ne.symm ne_a1_b1)
  have Ff24 := Ff7.other W20 (Or.inr (slot_ne (Or.inl (hw _ (List.mem_of_getElem? (i := 13) rfl))) (Or.inl (hw _ (List.mem_of_getElem? (i := 36) rfl))) (by decide) (t := (.array .int)) (t' := .int) (by decide) (by decide)))
  have Vf25 := Vf8.other W20 (Ne.symm ne_a1_b2)
  have Ff26 := Ff9.other W20 (Or.inr (slot_ne (Or.inl (hw _ (List.mem_of_getElem? (i := 15) rfl))) (Or.inl (hw _ (List.mem_of_getElem? (i := 36) rfl))) (by decide) (t := (.array .int)) (t' := .int) (by decide) (by decide)))
  have Vf27 := Vf10.other W20 (Ne.symm ne_a1_b3)
  have Ff28 := Ff11.other W20 (Or.inr (slot_ne (Or.inl (hw _ (List.mem_of_getElem? (i := 17) rfl))) (Or.inl (hw _ (List.mem_of_getElem? (i := 36) rfl))) (by decide) (t := (.array .int)) (t' := .int) (by decide) (by decide)))
  have Vf29 := Vf12.other W20 (Ne.symm ne_a1_b4)
  have Ff30 := Ff13.other W20 (Or.inr (slot_ne (Or.inl (hw _ (List.mem_of_getElem? (i := 19) rfl))) (Or.inl (hw _ (List.mem_of_getElem? (i := 36) rfl))) (by decide) (t := (.array .int)) (t' := .int) (by decide) (by decide)))
  have Vf31 := Vf14.other W20 (Ne.symm ne_a1_b5)
  have Ff32 := Ff15.other W20 (Or.inr (slot_ne (Or.inl (hw _ (List.mem_of_getElem? (i := 22) rfl))) (Or.inl (hw _ (List.mem_of_getElem? (i := 36) rfl))) (by decide) (t := (.array .byte)) (t' := .int) (by decide) (by decide)))
  have Vf33 := Vf16.other W20 (Ne.symm ne_a1_bB)
  have Ff34 := Fw2.other W20 (Or.inr (slot_ne (Or.inl (hw _ (List.mem_of_getElem? (i := 34) rfl))) (Or.inl (hw _ (List.mem_of_getElem? (i := 36) rfl))) (by decide) (t := .int) (t' := .int) (by decide) (by decide)))
  have N20 := Fr.snoc X20 N2 g_a1
  have Z20 : n0 ≤ h20.size := Nat.le_trans Z2 (Keep.of_wr W20).1
  have Kp35 : Keep h0 h20 [a1] := Kp17.wr W20 (Or.inl (List.mem_of_getElem? (i := 0) rfl))
  have ac36 : ∀ t, Steps p.tables e below (T20.setTop (mkF m 10 #[.val (.ref a1)] [])) t → Steps p.tables e below (s₁.setTop (entryFrame m #[(.ref a1)] 1)) t := fun t k => ac19 t (st20 t k)
  have ac37 : ∀ t, Steps p.tables e below (T20.setTop (mkF m 11 #[.val (.ref a1)] [(.ref a1)])) t → Steps p.tables e below (s₁.setTop (entryFrame m #[(.ref a1)] 1)) t := fun t k => ac36 t (by
      show Steps p.tables e below (T20.setTop (mkF m 10 #[.val (.ref a1)] [])) _
      refine XS.aloadN X20.here hx rfl (hb hby d4_10) rfl rfl ?_
      exact k)
  obtain ⟨T38, X38, e38, st38⟩ := getF X20 hx hZ hown (host := "") (Or.inl (hw _ (List.mem_of_getElem? (i := 10) rfl))) Via.refl e20 Ff22 (g := (mkF m 11 #[.val (.ref a1)] [(.ref a1)])) rfl rfl (hb hby d4_11)
  have ac39 : ∀ t, Steps p.tables e below (T38.setTop (mkF m 14 #[.val (.ref a1)] [(.ref b1)])) t → Steps p.tables e below (s₁.setTop (entryFrame m #[(.ref a1)] 1)) t := fun t k => ac37 t (st38 t k)
  obtain ⟨cl40, Ac40, hl40, hb40⟩ := Vf23.len
  have ac41 : ∀ t, Steps p.tables e below (T38.setTop (mkF m 67 #[.val (.ref a1)] [(.ref a1)])) t → Steps p.tables e below (s₁.setTop (entryFrame m #[(.ref a1)] 1)) t := fun t k => ac39 t (by
      show Steps p.tables e below (T38.setTop (mkF m 14 #[.val (.ref a1)] [(.ref b1)])) _
      refine X38.arraylength hx (by rw [e38]; exact Ac40.1) (State.isArrayOf_alike hZ.alike Ac40.2.1) (g := (mkF m 14 #[.val (.ref a1)] [(.ref b1)])) rfl rfl (hb hby d4_14) _ ?_
      rw [hl40]
      show Steps p.tables e below (T38.setTop (mkF m 15 #[.val (.ref a1)] [(.int (Int32.ofNat 16))])) _
      refine XS.sipush X38.here hx rfl (hb hby d4_15) ?_
      show Steps p.tables e below (T38.setTop (mkF m 18 #[.val (.ref a1)] [(.int (1024 : Int32)), (.int (Int32.ofNat 16))])) _
      refine XS.icmpYes X38.here hx rfl (pc0 := 18) (pc' := 66) rfl (hb hby d4_18) rfl (flt (by decide)).2.2.2 (by decide) (by decide) ?_
      show Steps p.tables e below (T38.setTop (mkF m 66 #[.val (.ref a1)] [])) _
      refine XS.aloadN X38.here hx rfl (hb hby d4_66) rfl rfl ?_
      exact k)
  obtain ⟨T42, X42, e42, st42⟩ := getF X38 hx hZ hown (host := "") (Or.inl (hw _ (List.mem_of_getElem? (i := 21) rfl))) Via.refl e38 Ff32 (g := (mkF m 67 #[.val (.ref a1)] [(.ref a1)])) rfl rfl (hb hby d4_67)
  have ac43 : ∀ t, Steps p.tables e below (T42.setTop (mkF m 70 #[.val (.ref a1)] [(.ref bB)])) t → Steps p.tables e below (s₁.setTop (entryFrame m #[(.ref a1)] 1)) t := fun t k => ac41 t (st42 t k)
  obtain ⟨cl44, Ac44, hl44, hb44⟩ := Vf33.len
  have hnB := own_ofNat hb44
  have z14 : (16384 : Int32).toInt = 16384 := rfl
  have ac45 : ∀ t, Steps p.tables e below (T42.setTop (mkF m 86 #[.val (.ref a1)] [])) t → Steps p.tables e below (s₁.setTop (entryFrame m #[(.ref a1)] 1)) t := fun t k => ac43 t (by
      show Steps p.tables e below (T42.setTop (mkF m 70 #[.val (.ref a1)] [(.ref bB)])) _
      refine X42.arraylength hx (by rw [e42]; exact Ac44.1) (State.isArrayOf_alike hZ.alike Ac44.2.1) (g := (mkF m 70 #[.val (.ref a1)] [(.ref bB)])) rfl rfl (hb hby d4_70) _ ?_
      rw [hl44]
      show Steps p.tables e below (T42.setTop (mkF m 71 #[.val (.ref a1)] [(.int (Int32.ofNat nB))])) _
      refine XS.sipush X42.here hx rfl (hb hby d4_71) ?_
      show Steps p.tables e below (T42.setTop (mkF m 74 #[.val (.ref a1)] [(.int (16384 : Int32)), (.int (Int32.ofNat nB))])) _
      refine XS.icmpYes X42.here hx rfl (pc0 := 74) (pc' := 86) rfl (hb hby d4_74) rfl (flt (own_nlt_of (by omega))).2.2.2 (by decide) (by decide) ?_
      exact k)
  obtain ⟨fs, hr, hrun, hended, hW, hsame⟩ := X42.leave (v := none) (fun _ => rfl) (BodyLoose.notSynchronized Bd)
  refine ⟨_, _, ac45 _ ?_, hrun, hended, _, _, rfl, ?_, ⟨_, rfl⟩, hW, hsame.mono (by decide) (by decide)⟩
  · show Steps p.tables e below (T42.setTop (mkF m 86 #[.val (.ref a1)] [])) _
    exact X42.returnOut hx Bd.returns (hb hby d4_86) hr
  · show Q4n Z a1 sz used b1 b2 b3 b4 b5 bB f1 f2 f3 f4 f5 fB nB h0 n0 _ T42.heap _
    rw [e42]
    exact ⟨rfl, N20, Kp35, ⟨Ef21, Ff34, Fw20, Ff22, Ff24, Ff26, Ff28, Ff30, Ff32, Vf23, Vf25, Vf27, Vf29, Vf31, Vf33, ne_a1_b1, ne_a1_b2, ne_a1_b3, ne_a1_b4, ne_a1_b5, ne_a1_bB, ne_b1_b2, ne_b1_b3, ne_b1_b4, ne_b1_b5, ne_b1_bB, ne_b2_b3, ne_b2_b4, ne_b2_b5, ne_b2_bB, ne_b3_b4, ne_b3_b5, ne_b3_bB, ne_b4_b5, ne_b4_bB, ne_b5_bB, g_b1, g_b2, g_b3, g_b4, g_b5, g_bB⟩⟩
theorem ef_rm4g (m : MethodId) (x0 : Addr) : entryFrame m #[(.ref x0)] 1 = mkF m 0 #[.val (.ref x0)] [] := by first | (simp [entryFrame, mkF, argsToLocals, Value.category]; done) | rfl
def Q4g (Z : State) (a1 : Addr) (sz : Int32) (used : Int32) (b1 : Addr) (b2 : Addr) (b3 : Addr) (b4 : Addr) (b5 : Addr) (bB : Addr) (f1 : Nat → Value) (f2 : Nat → Value) (f3 : Nat → Value) (f4 : Nat → Value) (f5 : Nat → Value) (fB : Nat → Value) (nB : Nat) (h0 : Heap) (n0 : Nat) (v : Option Value) (h : Heap) (L : List Loc) : Prop := ∃ (bB' : Addr) (fB' : Nat → Value), v = none ∧ Fr n0 L ∧ Keep h0 h [a1] ∧ h0.size ≤ bB' ∧ own_T Z h n0 a1 0 0 b1 b2 b3 b4 b5 bB' f1 f2 f3 f4 f5 16384 fB'
set_option maxRecDepth 65536 in
set_option maxHeartbeats 40000000 in
theorem rm4g (l : Launch) (Z : State) (a0 : Array Value) (hw : ∀ d ∈ tables_1, d.before a0 Z = true) (ws : List Jvm.Cond) (a1 : Addr) (sz : Int32) (used : Int32) (b1 : Addr) (b2 : Addr) (b3 : Addr) (b4 : Addr) (b5 : Addr) (bB : Addr) (f1 : Nat → Value) (f2 : Nat → Value) (f3 : Nat → Value) (f4 : Nat → Value) (f5 : Nat → Value) (fB : Nat → Value) (nB : Nat) (h0 : Heap) (n0 : Nat) (Z0 : n0 ≤ h0.size) (HB : own_T Z h0 n0 a1 sz used b1 b2 b3 b4 b5 bB f1 f2 f3 f4 f5 nB fB) (g_a1 : n0 ≤ a1) (hn : 16384 < nB) :
    MetFree l (⟨"com/example/termwright/termwright/TokenList", "clear", "()V"⟩ : MethodName) (head1 (Jvm.Cond.code (⟨"com/example/termwright/termwright/TokenList", "clear", "()V"⟩ : MethodName) prog_224_method_2_code 1 none :: ws) ({ frames := 0, cells := 1, slots := 16384, locals := 0 } : Room)) (fun a U => a = #[(.ref a1)] ∧ Z.Warmed39 U.vm ∧ U.heap = h0) (fun _ _ _ _ _ => True) (fun _ U o U' => ∃ v L, o = .returned v ∧ Q4g Z a1 sz used b1 b2 b3 b4 b5 bB f1 f2 f3 f4 f5 fB nB h0 n0 v U'.heap L ∧ FrameEnd U o U' L ({ frames := 0, cells := 1, slots := 16384, locals := 0 } : Room).cells ({ frames := 0, cells := 1, slots := 16384, locals := 0 } : Room).slots) := by
  refine MetFree.of_bodySF (plainFor_of_name pn_4) hisR ?_
  intro p e s m args below meth c s₁ Bd hml0 hP hK
  obtain ⟨rfl, hZ, hh⟩ := hP
  have hx := Bd.exec
  have hby := Bd.bytes
  have hml : c.maxLocals = 1 := hml0
  have hown : s.vm.findClass "com/example/termwright/termwright/TokenList" = some m.cls := findClass_of_methodNamed Bd.named
  have hnm := (name_of_methodNamed Bd.named Bd.method).1
  have X0 : Stand p l e ({ frames := 0, cells := 1, slots := 16384, locals := 0 } : Room) s m #[(.ref a1)] below meth c s₁ [] 0 0 := Stand.of_body Bd
  have e0 : s₁.heap = h0 := by rw [← hh, Bd.state]; rfl
  have N0 := Fr.nil n0
  have a0s : ∀ t, Steps p.tables e below (s₁.setTop (mkF m 0 #[.val (.ref a1)] [])) t → Steps p.tables e below (s₁.setTop (entryFrame m #[(.ref a1)] 1)) t := fun t k => castTop (ef_rm4g m a1) k
  obtain ⟨E1, F_sz, F_us, F_0, F_1, F_2, F_3, F_4, F_tb, V_0, V_1, V_2, V_3, V_4, V_5, ne_a1_b1, ne_a1_b2, ne_a1_b3, ne_a1_b4, ne_a1_b5, ne_a1_bB, ne_b1_b2, ne_b1_b3, ne_b1_b4, ne_b1_b5, ne_b1_bB, ne_b2_b3, ne_b2_b4, ne_b2_b5, ne_b2_bB, ne_b3_b4, ne_b3_b5, ne_b3_bB, ne_b4_b5, ne_b4_bB, ne_b5_bB, g_b1, g_b2, g_b3, g_b4, g_b5, g_bB⟩ := id HB
  have ac1 : ∀ t, Steps p.tables e below (s₁.setTop (mkF m 2 #[.val (.ref a1)] [(.int (0 : Int32)), (.ref a1)])) t → Steps p.tables e below (s₁.setTop (entryFrame m #[(.ref a1)] 1)) t := fun t k => a0s t (by
      show Steps p.tables e below (s₁.setTop (mkF m 0 #[.val (.ref a1)] [])) _
      refine XS.aloadN X0.here hx rfl (hb hby d4_0) rfl rfl ?_
      show Steps p.tables e below (s₁.setTop (mkF m 1 #[.val (.ref a1)] [(.ref a1)])) _
      refine XS.iconst X0.here hx rfl (hb hby d4_1) ?_
      exact k)
  obtain ⟨T2, h2, X2, e2, W2, st2⟩ := putF X0 hx hZ hown (host := "") (Or.inl (hw _ (List.mem_of_getElem? (i := 33) rfl))) Via.refl e0 F_sz E1 (Or.inl (hw _ (List.mem_of_getElem? (i := 34) rfl))) (hw _ (List.mem_of_getElem? (i := 1) rfl)) (ty := .int) (by decide) rfl rfl (g := (mkF m 2 #[.val (.ref a1)] [(.int (0 : Int32)), (.ref a1)])) rfl rfl (hb hby d4_2)
  have Fw2 := F_sz.same W2
  have Ef3 := E1.wr W2
  have Ff4 := F_us.other W2 (Or.inr (slot_ne (Or.inl (hw _ (List.mem_of_getElem? (i := 36) rfl))) (Or.inl (hw _ (List.mem_of_getElem? (i := 34) rfl))) (by decide) (t := .int) (t' := .int) (by decide) (by decide)))
  have Ff5 := F_0.other W2 (Or.inr (slot_ne (Or.inl (hw _ (List.mem_of_getElem? (i := 11) rfl))) (Or.inl (hw _ (List.mem_of_getElem? (i := 34) rfl))) (by decide) (t := (.array .int)) (t' := .int) (by decide) (by decide)))
  have Vf6 := V_0.other W2 (Ne.symm ne_a1_b1)
  have Ff7 := F_1.other W2 (Or.inr (slot_ne (Or.inl (hw _ (List.mem_of_getElem? (i := 13) rfl))) (Or.inl (hw _ (List.mem_of_getElem? (i := 34) rfl))) (by decide) (t := (.array .int)) (t' := .int) (by decide) (by decide)))
  have Vf8 := V_1.other W2 (Ne.symm ne_a1_b2)
  have Ff9 := F_2.other W2 (Or.inr (slot_ne (Or.inl (hw _ (List.mem_of_getElem? (i := 15) rfl))) (Or.inl (hw _ (List.mem_of_getElem? (i := 34) rfl))) (by decide) (t := (.array .int)) (t' := .int) (by decide) (by decide)))
  have Vf10 := V_2.other W2 (Ne.symm ne_a1_b3)
  have Ff11 := F_3.other W2 (Or.inr (slot_ne (Or.inl (hw _ (List.mem_of_getElem? (i := 17) rfl))) (Or.inl (hw _ (List.mem_of_getElem? (i := 34) rfl))) (by decide) (t := (.array .int)) (t' := .int) (by decide) (by decide)))
  have Vf12 := V_3.other W2 (Ne.symm ne_a1_b4)
  have Ff13 := F_4.other W2 (Or.inr (slot_ne (Or.inl (hw _ (List.mem_of_getElem? (i := 19) rfl))) (Or.inl (hw _ (List.mem_of_getElem? (i := 34) rfl))) (by decide) (t := (.array .int)) (t' := .int) (by decide) (by decide)))
  have Vf14 := V_4.other W2 (Ne.symm ne_a1_b5)
  have Ff15 := F_tb.other W2 (Or.inr (slot_ne (Or.inl (hw _ (List.mem_of_getElem? (i := 22) rfl))) (Or.inl (hw _ (List.mem_of_getElem? (i := 34) rfl))) (by decide) (t := (.array .byte)) (t' := .int) (by decide) (by decide)))
  have Vf16 := V_5.other W2 (Ne.symm ne_a1_bB)
  have N2 := Fr.snoc X2 N0 g_a1
  have Z2 : n0 ≤ h2.size := Nat.le_trans Z0 (Keep.of_wr W2).1
  have Kp17 : Keep h0 h2 [a1] := (Keep.refl h0 [a1]).wr W2 (Or.inl (List.mem_of_getElem? (i := 0) rfl))
  have ac18 : ∀ t, Steps p.tables e below (T2.setTop (mkF m 5 #[.val (.ref a1)] [])) t → Steps p.tables e below (s₁.setTop (entryFrame m #[(.ref a1)] 1)) t := fun t k => ac1 t (st2 t k)
  have ac19 : ∀ t, Steps p.tables e below (T2.setTop (mkF m 7 #[.val (.ref a1)] [(.int (0 : Int32)), (.ref a1)])) t → Steps p.tables e below (s₁.setTop (entryFrame m #[(.ref a1)] 1)) t := fun t k => ac18 t (by
      show Steps p.tables e below (T2.setTop (mkF m 5 #[.val (.ref a1)] [])) _
      refine XS.aloadN X2.here hx rfl (hb hby d4_5) rfl rfl ?_
      show Steps p.tables e below (T2.setTop (mkF m 6 #[.val (.ref a1)] [(.ref a1)])) _
      refine XS.iconst X2.here hx rfl (hb hby d4_6) ?_
      exact k)
  obtain ⟨T20, h20, X20, e20, W20, st20⟩ := putF X2 hx hZ hown (host := "") (Or.inl (hw _ (List.mem_of_getElem? (i := 35) rfl))) Via.refl e2 Ff4 Ef3 (Or.inl (hw _ (List.mem_of_getElem? (i := 36) rfl))) (hw _ (List.mem_of_getElem? (i := 1) rfl)) (ty := .int) (by decide) rfl rfl (g := (mkF m 7 #[.val (.ref a1)] [(.int (0 : Int32)), (.ref a1)])) rfl rfl (hb hby d4_7)
  have Fw20 := Ff4.same W20
  have Ef21 := Ef3.wr W20
  have Ff22 := Ff5.other W20 (Or.inr (slot_ne (Or.inl (hw _ (List.mem_of_getElem? (i := 11) rfl))) (Or.inl (hw _ (List.mem_of_getElem? (i := 36) rfl))) (by decide) (t := (.array .int)) (t' := .int) (by decide) (by decide)))
  have Vf23 := Vf6.other W20 (Ne.symm ne_a1_b1)
  have Ff24 := Ff7.other W20 (Or.inr (slot_ne (Or.inl (hw _ (List.mem_of_getElem? (i := 13) rfl))) (Or.inl (hw _ (List.mem_of_getElem? (i := 36) rfl))) (by decide) (t := (.array .int)) (t' := .int) (by decide) (by decide)))
  have Vf25 := Vf8.other W20 (Ne.symm ne_a1_b2)
  have Ff26 := Ff9.other W20 (Or.inr (slot_ne (Or.inl (hw _ (List.mem_of_getElem? (i := 15) rfl))) (Or.inl (hw _ (List.mem_of_getElem? (i := 36) rfl))) (by decide) (t := (.array .int)) (t' := .int) (by decide) (by decide)))
  have Vf27 := Vf10.other W20 (Ne.symm ne_a1_b3)
  have Ff28 := Ff11.other W20 (Or.inr (slot_ne (Or.inl (hw _ (List.mem_of_getElem? (i := 17) rfl))) (Or.inl (hw _ (List.mem_of_getElem? (i := 36) rfl))) (by decide) (t := (.array .int)) (t' := .int) (by decide) (by decide)))
  have Vf29 := Vf12.other W20 (Ne.symm ne_a1_b4)
  have Ff30 := Ff13.other W20 (Or.inr (slot_ne (Or.inl (hw _ (List.mem_of_getElem? (i := 19) rfl))) (Or.inl (hw _ (List.mem_of_getElem? (i := 36) rfl))) (by decide) (t := (.array .int)) (t' := .int) (by decide) (by decide)))
  have Vf31 := Vf14.other W20 (Ne.symm ne_a1_b5)
  have Ff32 := Ff15.other W20 (Or.inr (slot_ne (Or.inl (hw _ (List.mem_of_getElem? (i := 22) rfl))) (Or.inl (hw _ (List.mem_of_getElem? (i := 36) rfl))) (by decide) (t := (.array .byte)) (t' := .int) (by decide) (by decide)))
  have Vf33 := Vf16.other W20 (Ne.symm ne_a1_bB)
  have Ff34 := Fw2.other W20 (Or.inr (slot_ne (Or.inl (hw _ (List.mem_of_getElem? (i := 34) rfl))) (Or.inl (hw _ (List.mem_of_getElem? (i := 36) rfl))) (by decide) (t := .int) (t' := .int) (by decide) (by decide)))
  have N20 := Fr.snoc X20 N2 g_a1
  have Z20 : n0 ≤ h20.size := Nat.le_trans Z2 (Keep.of_wr W20).1
  have Kp35 : Keep h0 h20 [a1] := Kp17.wr W20 (Or.inl (List.mem_of_getElem? (i := 0) rfl))
  have ac36 : ∀ t, Steps p.tables e below (T20.setTop (mkF m 10 #[.val (.ref a1)] [])) t → Steps p.tables e below (s₁.setTop (entryFrame m #[(.ref a1)] 1)) t := fun t k => ac19 t (st20 t k)
  have ac37 : ∀ t, Steps p.tables e below (T20.setTop (mkF m 11 #[.val (.ref a1)] [(.ref a1)])) t → Steps p.tables e below (s₁.setTop (entryFrame m #[(.ref a1)] 1)) t := fun t k => ac36 t (by
      show Steps p.tables e below (T20.setTop (mkF m 10 #[.val (.ref a1)] [])) _
      refine XS.aloadN X20.here hx rfl (hb hby d4_10) rfl rfl ?_
      exact k)
  obtain ⟨T38, X38, e38, st38⟩ := getF X20 hx hZ hown (host := "") (Or.inl (hw _ (List.mem_of_getElem? (i := 10) rfl))) Via.refl e20 Ff22 (g := (mkF m 11 #[.val (.ref a1)] [(.ref a1)])) rfl rfl (hb hby d4_11)
  have ac39 : ∀ t, Steps p.tables e below (T38.setTop (mkF m 14 #[.val (.ref a1)] [(.ref b1)])) t → Steps p.tables e below (s₁.setTop (entryFrame m #[(.ref a1)] 1)) t := fun t k => ac37 t (st38 t k)
  obtain ⟨cl40, Ac40, hl40, hb40⟩ := Vf23.len
  have ac41 : ∀ t, Steps p.tables e below (T38.setTop (mkF m 67 #[.val (.ref a1)] [(.ref a1)])) t → Steps p.tables e below (s₁.setTop (entryFrame m #[(.ref a1)] 1)) t := fun t k => ac39 t (by
      show Steps p.tables e below (T38.setTop (mkF m 14 #[.val (.ref a1)] [(.ref b1)])) _
      refine X38.arraylength hx (by rw [e38]; exact Ac40.1) (State.isArrayOf_alike hZ.alike Ac40.2.1) (g := (mkF m 14 #[.val (.ref a1)] [(.ref b1)])) rfl rfl (hb hby d4_14) _ ?_
      rw [hl40]
      show Steps p.tables e below (T38.setTop (mkF m 15 #[.val (.ref a1)] [(.int (Int32.ofNat 16))])) _
      refine XS.sipush X38.here hx rfl (hb hby d4_15) ?_
      show Steps p.tables e below (T38.setTop (mkF m 18 #[.val (.ref a1)] [(.int (1024 : Int32)), (.int (Int32.ofNat 16))])) _
      refine XS.icmpYes X38.here hx rfl (pc0 := 18) (pc' := 66) rfl (hb hby d4_18) rfl (flt (by decide)).2.2.2 (by decide) (by decide) ?_
      show Steps p.tables e below (T38.setTop (mkF m 66 #[.val (.ref a1)] [])) _
      refine XS.aloadN X38.here hx rfl (hb hby d4_66) rfl rfl ?_
      exact k)
  obtain ⟨T42, X42, e42, st42⟩ := getF X38 hx hZ hown (host := "") (Or.inl (hw _ (List.mem_of_getElem? (i := 21) rfl))) Via.refl e38 Ff32 (g := (mkF m 67 #[.val (.ref a1)] [(.ref a1)])) rfl rfl (hb hby d4_67)
  have ac43 : ∀ t, Steps p.tables e below (T42.setTop (mkF m 70 #[.val (.ref a1)] [(.ref bB)])) t → Steps p.tables e below (s₁.setTop (entryFrame m #[(.ref a1)] 1)) t := fun t k => ac41 t (st42 t k)
  obtain ⟨cl44, Ac44, hl44, hb44⟩ := Vf33.len
  have hnB := own_ofNat hb44
  have z14 : (16384 : Int32).toInt = 16384 := rfl
  have ac45 : ∀ t, Steps p.tables e below (T42.setTop (mkF m 81 #[.val (.ref a1)] [(.int (16384 : Int32)), (.ref a1)])) t → Steps p.tables e below (s₁.setTop (entryFrame m #[(.ref a1)] 1)) t := fun t k => ac43 t (by
      show Steps p.tables e below (T42.setTop (mkF m 70 #[.val (.ref a1)] [(.ref bB)])) _
      refine X42.arraylength hx (by rw [e42]; exact Ac44.1) (State.isArrayOf_alike hZ.alike Ac44.2.1) (g := (mkF m 70 #[.val (.ref a1)] [(.ref bB)])) rfl rfl (hb hby d4_70) _ ?_
      rw [hl44]
      show Steps p.tables e below (T42.setTop (mkF m 71 #[.val (.ref a1)] [(.int (Int32.ofNat nB))])) _
      refine XS.sipush X42.here hx rfl (hb hby d4_71) ?_
      show Steps p.tables e below (T42.setTop (mkF m 74 #[.val (.ref a1)] [(.int (16384 : Int32)), (.int (Int32.ofNat nB))])) _
      refine XS.icmpNo X42.here hx rfl (hb hby d4_74) rfl (tlt (own_lt_of (by omega))).2.2.2 ?_
      show Steps p.tables e below (T42.setTop (mkF m 77 #[.val (.ref a1)] [])) _
      refine XS.aloadN X42.here hx rfl (hb hby d4_77) rfl rfl ?_
      show Steps p.tables e below (T42.setTop (mkF m 78 #[.val (.ref a1)] [(.ref a1)])) _
      refine XS.sipush X42.here hx rfl (hb hby d4_78) ?_
      exact k)
  obtain ⟨T46, h46, k46, X46, e46, E46, A46, st46⟩ := newP X42 hx hZ (hw _ (List.mem_of_getElem? (i := 20) rfl)) e42 (g := (mkF m 81 #[.val (.ref a1)] [(.int (16384 : Int32)), (.ref a1)])) rfl (hb hby d4_81) rfl (by decide) (cap := 16384) (by decide) (by decide) (by decide) (by decide)
  obtain ⟨b46, g46⟩ : ∃ z, z = h20.size := ⟨_, rfl⟩
  rw [← g46] at A46 st46
  have g_b46 : n0 ≤ b46 := Nat.le_trans Z20 (Nat.le_of_eq g46.symm)
  have sz_b46 : h0.size ≤ b46 := Nat.le_trans Kp35.1 (Nat.le_of_eq g46.symm)
  have ne_a1_b46 : a1 ≠ b46 := Nat.ne_of_lt (Nat.lt_of_lt_of_le Ef21.lt (Nat.le_of_eq g46.symm))
  have ne_b1_b46 : b1 ≠ b46 := Nat.ne_of_lt (Nat.lt_of_lt_of_le Vf23.lt (Nat.le_of_eq g46.symm))
  have ne_b2_b46 : b2 ≠ b46 := Nat.ne_of_lt (Nat.lt_of_lt_of_le Vf25.lt (Nat.le_of_eq g46.symm))
  have ne_b3_b46 : b3 ≠ b46 := Nat.ne_of_lt (Nat.lt_of_lt_of_le Vf27.lt (Nat.le_of_eq g46.symm))
  have ne_b4_b46 : b4 ≠ b46 := Nat.ne_of_lt (Nat.lt_of_lt_of_le Vf29.lt (Nat.le_of_eq g46.symm))
  have ne_b5_b46 : b5 ≠ b46 := Nat.ne_of_lt (Nat.lt_of_lt_of_le Vf31.lt (Nat.le_of_eq g46.symm))
  have ne_bB_b46 : bB ≠ b46 := Nat.ne_of_lt (Nat.lt_of_lt_of_le Vf33.lt (Nat.le_of_eq g46.symm))
  have Ef47 := Ef21.ext E46
  have Ff48 := Ff22.ext E46
  have Vf49 := Vf23.ext E46
  have Ff50 := Ff24.ext E46
  have Vf51 := Vf25.ext E46
  have Ff52 := Ff26.ext E46
  have Vf53 := Vf27.ext E46
  have Ff54 := Ff28.ext E46
  have Vf55 := Vf29.ext E46
  have Ff56 := Ff30.ext E46
  have Vf57 := Vf31.ext E46
  have Ff58 := Ff32.ext E46
  have Vf59 := Vf33.ext E46
  have Ff60 := Ff34.ext E46
  have Ff61 := Fw20.ext E46
  have Z46 : n0 ≤ h46.size := Nat.le_trans Z20 E46.1
  have Kp62 : Keep h0 h46 [a1] := Kp35.ext E46
  have V46 : own_Ar Z h46 b46 .byte 16384 (fun _ => (.int (0 : Int32))) := own_Ar.new A46 rfl
  have ac63 : ∀ t, Steps p.tables e below (T46.setTop (mkF m 83 #[.val (.ref a1)] [(.ref b46), (.ref a1)])) t → Steps p.tables e below (s₁.setTop (entryFrame m #[(.ref a1)] 1)) t := fun t k => ac45 t (st46 t k)
  obtain ⟨T64, h64, X64, e64, W64, st64⟩ := putF X46 hx hZ hown (host := "") (Or.inl (hw _ (List.mem_of_getElem? (i := 21) rfl))) Via.refl e46 Ff58 Ef47 (Or.inl (hw _ (List.mem_of_getElem? (i := 22) rfl))) (hw _ (List.mem_of_getElem? (i := 1) rfl)) (ty := (.array .byte)) (by decide) rfl rfl (g := (mkF m 83 #[.val (.ref a1)] [(.ref b46), (.ref a1)])) rfl rfl (hb hby d4_83)
  have Fw64 := Ff58.same W64
  have Ef65 := Ef47.wr W64
  have Ff66 := Ff48.other W64 (Or.inr (slot_ne (Or.inl (hw _ (List.mem_of_getElem? (i := 11) rfl))) (Or.inl (hw _ (List.mem_of_getElem? (i := 22) rfl))) (by decide) (t := (.array .int)) (t' := (.array .byte)) (by decide) (by decide)))
  have Vf67 := Vf49.other W64 (Ne.symm ne_a1_b1)
  have Ff68 := Ff50.other W64 (Or.inr (slot_ne (Or.inl (hw _ (List.mem_of_getElem? (i := 13) rfl))) (Or.inl (hw _ (List.mem_of_getElem? (i := 22) rfl))) (by decide) (t := (.array .int)) (t' := (.array .byte)) (by decide) (by decide)))
  have Vf69 := Vf51.other W64 (Ne.symm ne_a1_b2)
  have Ff70 := Ff52.other W64 (Or.inr (slot_ne (Or.inl (hw _ (List.mem_of_getElem? (i := 15) rfl))) (Or.inl (hw _ (List.mem_of_getElem? (i := 22) rfl))) (by decide) (t := (.array .int)) (t' := (.array .byte)) (by decide) (by decide)))
  have Vf71 := Vf53.other W64 (Ne.symm ne_a1_b3)
  have Ff72 := Ff54.other W64 (Or.inr (slot_ne (Or.inl (hw _ (List.mem_of_getElem? (i := 17) rfl))) (Or.inl (hw _ (List.mem_of_getElem? (i := 22) rfl))) (by decide) (t := (.array .int)) (t' := (.array .byte)) (by decide) (by decide)))
  have Vf73 := Vf55.other W64 (Ne.symm ne_a1_b4)
  have Ff74 := Ff56.other W64 (Or.inr (slot_ne (Or.inl (hw _ (List.mem_of_getElem? (i := 19) rfl))) (Or.inl (hw _ (List.mem_of_getElem? (i := 22) rfl))) (by decide) (t := (.array .int)) (t' := (.array .byte)) (by decide) (by decide)))
  have Vf75 := Vf57.other W64 (Ne.symm ne_a1_b5)
  have Ff76 := Ff60.other W64 (Or.inr (slot_ne (Or.inl (hw _ (List.mem_of_getElem? (i := 34) rfl))) (Or.inl (hw _ (List.mem_of_getElem? (i := 22) rfl))) (by decide) (t := .int) (t' := (.array .byte)) (by decide) (by decide)))
  have Ff77 := Ff61.other W64 (Or.inr (slot_ne (Or.inl (hw _ (List.mem_of_getElem? (i := 36) rfl))) (Or.inl (hw _ (List.mem_of_getElem? (i := 22) rfl))) (by decide) (t := .int) (t' := (.array .byte)) (by decide) (by decide)))
  have Vf78 := V46.other W64 (Ne.symm ne_a1_b46)
  have N64 := Fr.snoc X64 N20 g_a1
  have Z64 : n0 ≤ h64.size := Nat.le_trans Z46 (Keep.of_wr W64).1
  have Kp79 : Keep h0 h64 [a1] := Kp62.wr W64 (Or.inl (List.mem_of_getElem? (i := 0) rfl))
  have ac80 : ∀ t, Steps p.tables e below (T64.setTop (mkF m 86 #[.val (.ref a1)] [])) t → Steps p.tables e below (s₁.setTop (entryFrame m #[(.ref a1)] 1)) t := fun t k => ac63 t (st64 t k)
  obtain ⟨fs, hr, hrun, hended, hW, hsame⟩ := X64.leave (v := none) (fun _ => rfl) (BodyLoose.notSynchronized Bd)
  refine ⟨_, _, ac80 _ ?_, hrun, hended, _, _, rfl, ?_, ⟨_, rfl⟩, hW, hsame.mono (by decide) (by decide)⟩
  · show Steps p.tables e below (T64.setTop (mkF m 86 #[.val (.ref a1)] [])) _
    exact X64.returnOut hx Bd.returns (hb hby d4_86) hr
  · show Q4g Z a1 sz used b1 b2 b3 b4 b5 bB f1 f2 f3 f4 f5 fB nB h0 n0 _ T64.heap _
    rw [e64]
    exact ⟨b46, _, rfl, N64, Kp79, sz_b46, ⟨Ef65, Ff76, Ff77, Ff66, Ff68, Ff70, Ff72, Ff74, Fw64, Vf67, Vf69, Vf71, Vf73, Vf75, Vf78, ne_a1_b1, ne_a1_b2, ne_a1_b3, ne_a1_b4, ne_a1_b5, ne_a1_b46, ne_b1_b2, ne_b1_b3, ne_b1_b4, ne_b1_b5, ne_b1_b46, ne_b2_b3, ne_b2_b4, ne_b2_b5, ne_b2_b46, ne_b3_b4, ne_b3_b5, ne_b3_b46, ne_b4_b5, ne_b4_b46, ne_b5_b46, g_b1, g_b2, g_b3, g_b4, g_b5, g_b46⟩⟩
theorem ef_rm0 (m : MethodId) (x0 : Int32) (x1 : Int32) (x2 : Int32) (x3 : Int32) (x4 : Int32) : entryFrame m #[(.int x0), (.int x1), (.int x2), (.int x3), (.int x4)] maxLocals = mkF m 0 #[.val (.int x0), .val (.int x1), .val (.int x2), .val (.int x3), .val (.int x4), .unset, .unset, .unset, .unset, .unset, .unset, .unset] [] := by first | (simp [entryFrame, mkF, argsToLocals, Value.category, maxLocals]; done) | rfl
def Q0 (Z : State) (p1 : Int32) (p2 : Int32) (p3 : Int32) (p4 : Int32) (p5 : Int32) (h0 : Heap) (n0 : Nat) (v : Option Value) (h : Heap) (L : List Loc) : Prop := v = some (.int 1) ∧ Fr n0 L
set_option maxRecDepth 65536 in
set_option maxHeartbeats 40000000 in
theorem rm0 (l : Launch) (Z : State) (a0 : Array Value) (hw : ∀ d ∈ tables_1, d.before a0 Z = true) (ws : List Jvm.Cond) (p1 : Int32) (p2 : Int32) (p3 : Int32) (p4 : Int32) (p5 : Int32) (h0 : Heap) (n0 : Nat) (Z0 : n0 ≤ h0.size) :
    MetFree l x (head1 (Jvm.Cond.code x code maxLocals ret :: ws) room_1) (fun a U => a = #[(.int p1), (.int p2), (.int p3), (.int p4), (.int p5)] ∧ Z.Warmed39 U.vm ∧ U.heap = h0) (fun _ _ _ _ _ => True) (fun _ U o U' => ∃ v L, o = .returned v ∧ Q0 Z p1 p2 p3 p4 p5 h0 n0 v U'.heap L ∧ FrameEnd U o U' L room_1.cells room_1.slots) := by
  refine MetFree.of_bodySF (plainFor_of_name pn_0) hisR ?_
  intro p e s m args below meth c s₁ Bd hml0 hP hK
  obtain ⟨rfl, hZ, hh⟩ := hP
  have hx := Bd.exec
  have hby := Bd.bytes
  have hml : c.maxLocals = 12 := hml0
  have hown : s.vm.findClass "com/example/termwright/termwright/TokenListClearPinLaw" = some m.cls := findClass_of_methodNamed Bd.named
  have hnm := (name_of_methodNamed Bd.named Bd.method).1
  have X0 : Stand p l e room_1 s m #[(.int p1), (.int p2), (.int p3), (.int p4), (.int p5)] below meth c s₁ [] 0 0 := Stand.of_body Bd
  have e0 : s₁.heap = h0 := by rw [← hh, Bd.state]; rfl
  have N0 := Fr.nil n0
  have a0s : ∀ t, Steps p.tables e below (s₁.setTop (mkF m 0 #[.val (.int p1), .val (.int p2), .val (.int p3), .val (.int p4), .val (.int p5), .unset, .unset, .unset, .unset, .unset, .unset, .unset] [])) t → Steps p.tables e below (s₁.setTop (entryFrame m #[(.int p1), (.int p2), (.int p3), (.int p4), (.int p5)] maxLocals)) t := fun t k => castTop (ef_rm0 m p1 p2 p3 p4 p5) k
  obtain ⟨T1, h1, X1, e1, E1, A1, D1, -, st1⟩ := newO X0 hx hZ hown (hw _ (List.mem_of_getElem? (i := 0) rfl)) (hw _ (List.mem_of_getElem? (i := 1) rfl)) (hw _ (List.mem_of_getElem? (i := 2) rfl)) e0 (g := (mkF m 0 #[.val (.int p1), .val (.int p2), .val (.int p3), .val (.int p4), .val (.int p5), .unset, .unset, .unset, .unset, .unset, .unset, .unset] [])) rfl (hb hby at_0) (by decide) (by decide)
  obtain ⟨b1, g1⟩ : ∃ z, z = h0.size := ⟨_, rfl⟩
  rw [← g1] at A1 D1 st1
  have g_b1 : n0 ≤ b1 := Nat.le_trans Z0 (Nat.le_of_eq g1.symm)
  have Z1 : n0 ≤ h1.size := Nat.le_trans Z0 E1.1
  have F_starts_b1 : Fld Z h1 b1 "com/example/termwright/termwright/TokenList" "starts" "[I" .null := D1 (Or.inl (hw _ (List.mem_of_getElem? (i := 11) rfl))) (ty := (.array .int)) (by decide)
  have F_ends_b1 : Fld Z h1 b1 "com/example/termwright/termwright/TokenList" "ends" "[I" .null := D1 (Or.inl (hw _ (List.mem_of_getElem? (i := 13) rfl))) (ty := (.array .int)) (by decide)
  have F_termStarts_b1 : Fld Z h1 b1 "com/example/termwright/termwright/TokenList" "termStarts" "[I" .null := D1 (Or.inl (hw _ (List.mem_of_getElem? (i := 15) rfl))) (ty := (.array .int)) (by decide)
  have F_termEnds_b1 : Fld Z h1 b1 "com/example/termwright/termwright/TokenList" "termEnds" "[I" .null := D1 (Or.inl (hw _ (List.mem_of_getElem? (i := 17) rfl))) (ty := (.array .int)) (by decide)
  have F_termChars_b1 : Fld Z h1 b1 "com/example/termwright/termwright/TokenList" "termChars" "[I" .null := D1 (Or.inl (hw _ (List.mem_of_getElem? (i := 19) rfl))) (ty := (.array .int)) (by decide)
  have F_termBytes_b1 : Fld Z h1 b1 "com/example/termwright/termwright/TokenList" "termBytes" "[B" .null := D1 (Or.inl (hw _ (List.mem_of_getElem? (i := 22) rfl))) (ty := (.array .byte)) (by decide)
  have F_size_b1 : Fld Z h1 b1 "com/example/termwright/termwright/TokenList" "size" "I" (.int (0 : Int32)) := D1 (Or.inl (hw _ (List.mem_of_getElem? (i := 34) rfl))) (ty := .int) (by decide)
  have F_termBytesUsed_b1 : Fld Z h1 b1 "com/example/termwright/termwright/TokenList" "termBytesUsed" "I" (.int (0 : Int32)) := D1 (Or.inl (hw _ (List.mem_of_getElem? (i := 36) rfl))) (ty := .int) (by decide)
  have ac2 : ∀ t, Steps p.tables e below (T1.setTop (mkF m 3 #[.val (.int p1), .val (.int p2), .val (.int p3), .val (.int p4), .val (.int p5), .unset, .unset, .unset, .unset, .unset, .unset, .unset] [(.ref b1)])) t → Steps p.tables e below (s₁.setTop (entryFrame m #[(.int p1), (.int p2), (.int p3), (.int p4), (.int p5)] maxLocals)) t := fun t k => a0s t (st1 t k)
  have ac3 : ∀ t, Steps p.tables e below (T1.setTop (mkF m 4 #[.val (.int p1), .val (.int p2), .val (.int p3), .val (.int p4), .val (.int p5), .unset, .unset, .unset, .unset, .unset, .unset, .unset] [(.ref b1), (.ref b1)])) t → Steps p.tables e below (s₁.setTop (entryFrame m #[(.int p1), (.int p2), (.int p3), (.int p4), (.int p5)] maxLocals)) t := fun t k => ac2 t (by
      show Steps p.tables e below (T1.setTop (mkF m 3 #[.val (.int p1), .val (.int p2), .val (.int p3), .val (.int p4), .val (.int p5), .unset, .unset, .unset, .unset, .unset, .unset, .unset] [(.ref b1)])) _
      refine XS.dup X1.here hx rfl (hb hby at_3) rfl rfl ?_
      exact k)
  obtain ⟨_, _, ⟨T4, L4, k4, n4⟩, -, X4, ⟨Lc4, hQ4, l4, y4, z4⟩, st4⟩ := X1.specialBack hx (y := (⟨"com/example/termwright/termwright/TokenList", "<init>", "()V"⟩ : MethodName)) rfl hown (mvT hZ (hw _ (List.mem_of_getElem? (i := 3) rfl))) (mvT hZ (hw _ (List.mem_of_getElem? (i := 4) rfl))) (mvT hZ (hw _ (List.mem_of_getElem? (i := 5) rfl))) (by decide) (backOf (W := 1) (rm1 l Z a0 hw [] b1  h1 n0 Z1 A1 g_b1 F_size_b1 F_termBytesUsed_b1 F_starts_b1 F_ends_b1 F_termStarts_b1 F_termEnds_b1 F_termChars_b1 F_termBytes_b1) hZ (hw _ (List.mem_of_getElem? (i := 5) rfl)) (hw _ (List.mem_of_getElem? (i := 2) rfl)) (by decide) (by decide)) (g := (mkF m 4 #[.val (.int p1), .val (.int p2), .val (.int p3), .val (.int p4), .val (.int p5), .unset, .unset, .unset, .unset, .unset, .unset, .unset] [(.ref b1), (.ref b1)])) rfl (by rw [hml]; rfl) (Steps.refl _) (a := b1) (argsL := []) (rest := [(.ref b1)]) (lenOf pd_0 rfl) rfl (by show 2 * 0 + _ ≤ _; exact Nat.le_of_eq rfl) (hb hby at_4) (fun _ _ => ⟨rfl, e1, (by decide : 1 + 6 ≤ _), (by decide : 8 + 336 ≤ _)⟩)
  dsimp only [Pt.U, Pt.locs, Pt.cells, Pt.slots] at X4 l4 y4 z4 st4 hQ4
  subst l4 y4 z4
  obtain ⟨rfl, N4q, K4q, ⟨b1_4, b2_4, b3_4, b4_4, b5_4, bB_4, f1_4, f2_4, f3_4, f4_4, f5_4, fB_4, HB4⟩⟩ := hQ4
  have N4 := Fr.app N0 N4q
  have Ef5 := A1.keep K4q
  have Z4 : n0 ≤ T4.heap.size := Nat.le_trans Z1 K4q.1
  have ac6 : ∀ t, Steps p.tables e below (T4.setTop (mkF m 7 #[.val (.int p1), .val (.int p2), .val (.int p3), .val (.int p4), .val (.int p5), .unset, .unset, .unset, .unset, .unset, .unset, .unset] [(.ref b1)])) t → Steps p.tables e below (s₁.setTop (entryFrame m #[(.int p1), (.int p2), (.int p3), (.int p4), (.int p5)] maxLocals)) t := fun t k => ac3 t (st4.trans k)
  have ac7 : ∀ t, Steps p.tables e below (T4.setTop (mkF m 12 #[.val (.int p1), .val (.int p2), .val (.int p3), .val (.int p4), .val (.int p5), .val (.ref b1), .unset, .unset, .unset, .unset, .unset, .unset] [(.int (p1 &&& (1 : Int32)))])) t → Steps p.tables e below (s₁.setTop (entryFrame m #[(.int p1), (.int p2), (.int p3), (.int p4), (.int p5)] maxLocals)) t := fun t k => ac6 t (by
      show Steps p.tables e below (T4.setTop (mkF m 7 #[.val (.int p1), .val (.int p2), .val (.int p3), .val (.int p4), .val (.int p5), .unset, .unset, .unset, .unset, .unset, .unset, .unset] [(.ref b1)])) _
      refine XS.astore X4.here hx rfl (hb hby at_7) rfl rfl (l' := #[.val (.int p1), .val (.int p2), .val (.int p3), .val (.int p4), .val (.int p5), .val (.ref b1), .unset, .unset, .unset, .unset, .unset, .unset]) rfl ?_
      show Steps p.tables e below (T4.setTop (mkF m 9 #[.val (.int p1), .val (.int p2), .val (.int p3), .val (.int p4), .val (.int p5), .val (.ref b1), .unset, .unset, .unset, .unset, .unset, .unset] [])) _
      refine XS.iloadN X4.here hx rfl (hb hby at_9) rfl ?_
      show Steps p.tables e below (T4.setTop (mkF m 10 #[.val (.int p1), .val (.int p2), .val (.int p3), .val (.int p4), .val (.int p5), .val (.ref b1), .unset, .unset, .unset, .unset, .unset, .unset] [(.int p1)])) _
      refine XS.iconst X4.here hx rfl (hb hby at_10) ?_
      show Steps p.tables e below (T4.setTop (mkF m 11 #[.val (.int p1), .val (.int p2), .val (.int p3), .val (.int p4), .val (.int p5), .val (.ref b1), .unset, .unset, .unset, .unset, .unset, .unset] [(.int (1 : Int32)), (.int p1)])) _
      refine XS.iand X4.here hx rfl (hb hby at_11) rfl ?_
      exact k)
  by_cases hflag : (p1 &&& (1 : Int32)) = (0 : Int32)
  ·
    have hsmall : 256 ≤ 16384 := by decide
    have ac8 : ∀ t, Steps p.tables e below (T4.setTop (mkF m 53 #[.val (.int p1), .val (.int p2), .val (.int p3), .val (.int p4), .val (.int p5), .val (.ref b1), .unset, .unset, .unset, .unset, .unset, .unset] [(.ref b1)])) t → Steps p.tables e below (s₁.setTop (entryFrame m #[(.int p1), (.int p2), (.int p3), (.int p4), (.int p5)] maxLocals)) t := fun t k => ac7 t (by
        show Steps p.tables e below (T4.setTop (mkF m 12 #[.val (.int p1), .val (.int p2), .val (.int p3), .val (.int p4), .val (.int p5), .val (.ref b1), .unset, .unset, .unset, .unset, .unset, .unset] [(.int (p1 &&& (1 : Int32)))])) _
        refine XS.ifYes X4.here hx rfl (pc0 := 12) (pc' := 51) rfl (hb hby at_12) rfl ((if0 _ _).trans (teq hflag).1) (by decide) (by decide) ?_
        show Steps p.tables e below (T4.setTop (mkF m 51 #[.val (.int p1), .val (.int p2), .val (.int p3), .val (.int p4), .val (.int p5), .val (.ref b1), .unset, .unset, .unset, .unset, .unset, .unset] [])) _
        refine XS.aload X4.here hx rfl (hb hby at_51) rfl rfl ?_
        exact k)
    obtain ⟨cq9, kq9, q9a, q9b, q9c⟩ := isOf hZ rfl HB4.1
    obtain ⟨_, _, ⟨T9, L9, k9, n9⟩, -, X9, ⟨Lc9, hQ9, l9, y9, z9⟩, st9⟩ := X4.virtualBack hx (y := (⟨"com/example/termwright/termwright/TokenList", "termBytes", "()[B"⟩ : MethodName)) (z := (⟨"com/example/termwright/termwright/TokenList", "termBytes", "()[B"⟩ : MethodName)) hown (mvT hZ (hw _ (List.mem_of_getElem? (i := 23) rfl))) (mvT hZ (hw _ (List.mem_of_getElem? (i := 24) rfl))) (notFace_of_selects (args := #[]) (mvT hZ (hw _ (List.mem_of_getElem? (i := 26) rfl)))) (mvT hZ (hw _ (List.mem_of_getElem? (i := 26) rfl))) (mvT hZ (hw _ (List.mem_of_getElem? (i := 25) rfl))) (by decide) (backOf (W := 0) (rm3 l Z a0 hw [] b1 _ _ _ _ _ _ _ _ _ _ _ _ _ _ _  T4.heap n0 Z4 HB4) hZ (hw _ (List.mem_of_getElem? (i := 27) rfl)) (hw _ (List.mem_of_getElem? (i := 2) rfl)) (by decide) (by decide)) q9a q9c (g := (mkF m 53 #[.val (.int p1), .val (.int p2), .val (.int p3), .val (.int p4), .val (.int p5), .val (.ref b1), .unset, .unset, .unset, .unset, .unset, .unset] [(.ref b1)])) rfl (by rw [hml]; rfl) (Steps.refl _) (argsL := []) (rest := []) (lenOf pd_1 rfl) rfl (by show 2 * 0 + _ ≤ _; exact Nat.le_of_eq rfl) (hb hby at_53) (fun _ _ => ⟨rfl, rfl, (by decide : 7 + 0 ≤ _), (by decide : 344 + 0 ≤ _)⟩)
    dsimp only [Pt.U, Pt.locs, Pt.cells, Pt.slots] at X9 l9 y9 z9 st9 hQ9
    subst l9 y9 z9
    obtain ⟨rfl, N9q, Qe9⟩ := hQ9
    have N9 := Fr.app N4 N9q
    have ac10 : ∀ t, Steps p.tables e below (T9.setTop (mkF m 56 #[.val (.int p1), .val (.int p2), .val (.int p3), .val (.int p4), .val (.int p5), .val (.ref b1), .unset, .unset, .unset, .unset, .unset, .unset] [(.ref bB_4)])) t → Steps p.tables e below (s₁.setTop (entryFrame m #[(.int p1), (.int p2), (.int p3), (.int p4), (.int p5)] maxLocals)) t := fun t k => ac8 t (st9.trans k)
    obtain ⟨-, -, -, -, -, -, -, -, -, -, -, -, -, -, Vb0, -⟩ := id HB4
    have ac11 : ∀ t, Steps p.tables e below (T9.setTop (mkF m 60 #[.val (.int p1), .val (.int p2), .val (.int p3), .val (.int p4), .val (.int p5), .val (.ref b1), .val (.ref bB_4), .unset, .unset, .unset, .unset, .unset] [(.ref bB_4)])) t → Steps p.tables e below (s₁.setTop (entryFrame m #[(.int p1), (.int p2), (.int p3), (.int p4), (.int p5)] maxLocals)) t := fun t k => ac10 t (by
        show Steps p.tables e below (T9.setTop (mkF m 56 #[.val (.int p1), .val (.int p2), .val (.int p3), .val (.int p4), .val (.int p5), .val (.ref b1), .unset, .unset, .unset, .unset, .unset, .unset] [(.ref bB_4)])) _
        refine XS.astore X9.here hx rfl (hb hby at_56) rfl rfl (l' := #[.val (.int p1), .val (.int p2), .val (.int p3), .val (.int p4), .val (.int p5), .val (.ref b1), .val (.ref bB_4), .unset, .unset, .unset, .unset, .unset]) rfl ?_
        show Steps p.tables e below (T9.setTop (mkF m 58 #[.val (.int p1), .val (.int p2), .val (.int p3), .val (.int p4), .val (.int p5), .val (.ref b1), .val (.ref bB_4), .unset, .unset, .unset, .unset, .unset] [])) _
        refine XS.aload X9.here hx rfl (hb hby at_58) rfl rfl ?_
        exact k)
    obtain ⟨cl12, Ac12, hl12, hb12⟩ := Vb0.len
    have hlen := own_ofNat hb12
    have z14 : (16384 : Int32).toInt = 16384 := rfl
    have ac13 : ∀ t, Steps p.tables e below (T9.setTop (mkF m 65 #[.val (.int p1), .val (.int p2), .val (.int p3), .val (.int p4), .val (.int p5), .val (.ref b1), .val (.ref bB_4), .val (.int (Int32.ofNat 256)), .unset, .unset, .unset, .unset] [(.ref b1)])) t → Steps p.tables e below (s₁.setTop (entryFrame m #[(.int p1), (.int p2), (.int p3), (.int p4), (.int p5)] maxLocals)) t := fun t k => ac11 t (by
        show Steps p.tables e below (T9.setTop (mkF m 60 #[.val (.int p1), .val (.int p2), .val (.int p3), .val (.int p4), .val (.int p5), .val (.ref b1), .val (.ref bB_4), .unset, .unset, .unset, .unset, .unset] [(.ref bB_4)])) _
        refine X9.arraylength hx (by rw [Qe9]; exact Ac12.1) (State.isArrayOf_alike hZ.alike Ac12.2.1) (g := (mkF m 60 #[.val (.int p1), .val (.int p2), .val (.int p3), .val (.int p4), .val (.int p5), .val (.ref b1), .val (.ref bB_4), .unset, .unset, .unset, .unset, .unset] [(.ref bB_4)])) rfl rfl (hb hby at_60) _ ?_
        rw [hl12]
        show Steps p.tables e below (T9.setTop (mkF m 61 #[.val (.int p1), .val (.int p2), .val (.int p3), .val (.int p4), .val (.int p5), .val (.ref b1), .val (.ref bB_4), .unset, .unset, .unset, .unset, .unset] [(.int (Int32.ofNat 256))])) _
        refine XS.istore X9.here hx rfl (hb hby at_61) rfl (l' := #[.val (.int p1), .val (.int p2), .val (.int p3), .val (.int p4), .val (.int p5), .val (.ref b1), .val (.ref bB_4), .val (.int (Int32.ofNat 256)), .unset, .unset, .unset, .unset]) rfl ?_
        show Steps p.tables e below (T9.setTop (mkF m 63 #[.val (.int p1), .val (.int p2), .val (.int p3), .val (.int p4), .val (.int p5), .val (.ref b1), .val (.ref bB_4), .val (.int (Int32.ofNat 256)), .unset, .unset, .unset, .unset] [])) _
        refine XS.aload X9.here hx rfl (hb hby at_63) rfl rfl ?_
        exact k)
    obtain ⟨cq14, kq14, q14a, q14b, q14c⟩ := isOf hZ Qe9 HB4.1
    obtain ⟨_, _, ⟨T14, L14, k14, n14⟩, -, X14, ⟨Lc14, hQ14, l14, y14, z14⟩, st14⟩ := X9.virtualBack hx (y := (⟨"com/example/termwright/termwright/TokenList", "clear", "()V"⟩ : MethodName)) (z := (⟨"com/example/termwright/termwright/TokenList", "clear", "()V"⟩ : MethodName)) hown (mvT hZ (hw _ (List.mem_of_getElem? (i := 28) rfl))) (mvT hZ (hw _ (List.mem_of_getElem? (i := 29) rfl))) (notFace_of_selects (args := #[]) (mvT hZ (hw _ (List.mem_of_getElem? (i := 31) rfl)))) (mvT hZ (hw _ (List.mem_of_getElem? (i := 31) rfl))) (mvT hZ (hw _ (List.mem_of_getElem? (i := 30) rfl))) (by decide) (backOf (W := 0) (rm4n l Z a0 hw [] b1 _ _ _ _ _ _ _ _ _ _ _ _ _ _ _  T4.heap n0 Z4 HB4 g_b1 hsmall) hZ (hw _ (List.mem_of_getElem? (i := 32) rfl)) (hw _ (List.mem_of_getElem? (i := 2) rfl)) (by decide) (by decide)) q14a q14c (g := (mkF m 65 #[.val (.int p1), .val (.int p2), .val (.int p3), .val (.int p4), .val (.int p5), .val (.ref b1), .val (.ref bB_4), .val (.int (Int32.ofNat 256)), .unset, .unset, .unset, .unset] [(.ref b1)])) rfl (by rw [hml]; rfl) (Steps.refl _) (argsL := []) (rest := []) (lenOf pd_0 rfl) rfl (by show 2 * 0 + _ ≤ _; exact Nat.le_of_eq rfl) (hb hby at_65) (fun _ _ => ⟨rfl, Qe9, (by decide : 7 + 0 ≤ _), (by decide : 344 + 0 ≤ _)⟩)
    dsimp only [Pt.U, Pt.locs, Pt.cells, Pt.slots] at X14 l14 y14 z14 st14 hQ14
    subst l14 y14 z14
    obtain ⟨rfl, N14q, K14q, HB14⟩ := hQ14
    have N14 := Fr.app N9 N14q
    have Ef15 := HB4.1.keep K14q
    have Z14 : n0 ≤ T14.heap.size := Nat.le_trans Z4 K14q.1
    have ac16 : ∀ t, Steps p.tables e below (T14.setTop (mkF m 68 #[.val (.int p1), .val (.int p2), .val (.int p3), .val (.int p4), .val (.int p5), .val (.ref b1), .val (.ref bB_4), .val (.int (Int32.ofNat 256)), .unset, .unset, .unset, .unset] [])) t → Steps p.tables e below (s₁.setTop (entryFrame m #[(.int p1), (.int p2), (.int p3), (.int p4), (.int p5)] maxLocals)) t := fun t k => ac13 t (st14.trans k)
    have hle16 : 256 ≤ 65535 := Nat.le_trans hsmall (by decide)
    have ac17 : ∀ t, Steps p.tables e below (T14.setTop (mkF m 70 #[.val (.int p1), .val (.int p2), .val (.int p3), .val (.int p4), .val (.int p5), .val (.ref b1), .val (.ref bB_4), .val (.int (Int32.ofNat 256)), .unset, .unset, .unset, .unset] [(.ref b1)])) t → Steps p.tables e below (s₁.setTop (entryFrame m #[(.int p1), (.int p2), (.int p3), (.int p4), (.int p5)] maxLocals)) t := fun t k => ac16 t (by
        show Steps p.tables e below (T14.setTop (mkF m 68 #[.val (.int p1), .val (.int p2), .val (.int p3), .val (.int p4), .val (.int p5), .val (.ref b1), .val (.ref bB_4), .val (.int (Int32.ofNat 256)), .unset, .unset, .unset, .unset] [])) _
        refine XS.aload X14.here hx rfl (hb hby at_68) rfl rfl ?_
        exact k)
    obtain ⟨cq18, kq18, q18a, q18b, q18c⟩ := isOf hZ rfl HB14.1
    obtain ⟨_, _, ⟨T18, L18, k18, n18⟩, -, X18, ⟨Lc18, hQ18, l18, y18, z18⟩, st18⟩ := X14.virtualBack hx (y := (⟨"com/example/termwright/termwright/TokenList", "termBytes", "()[B"⟩ : MethodName)) (z := (⟨"com/example/termwright/termwright/TokenList", "termBytes", "()[B"⟩ : MethodName)) hown (mvT hZ (hw _ (List.mem_of_getElem? (i := 23) rfl))) (mvT hZ (hw _ (List.mem_of_getElem? (i := 24) rfl))) (notFace_of_selects (args := #[]) (mvT hZ (hw _ (List.mem_of_getElem? (i := 26) rfl)))) (mvT hZ (hw _ (List.mem_of_getElem? (i := 26) rfl))) (mvT hZ (hw _ (List.mem_of_getElem? (i := 25) rfl))) (by decide) (backOf (W := 0) (rm3 l Z a0 hw [] b1 _ _ _ _ _ _ _ _ _ _ _ _ _ _ _  T14.heap n0 Z14 HB14) hZ (hw _ (List.mem_of_getElem? (i := 27) rfl)) (hw _ (List.mem_of_getElem? (i := 2) rfl)) (by decide) (by decide)) q18a q18c (g := (mkF m 70 #[.val (.int p1), .val (.int p2), .val (.int p3), .val (.int p4), .val (.int p5), .val (.ref b1), .val (.ref bB_4), .val (.int (Int32.ofNat 256)), .unset, .unset, .unset, .unset] [(.ref b1)])) rfl (by rw [hml]; rfl) (Steps.refl _) (argsL := []) (rest := []) (lenOf pd_1 rfl) rfl (by show 2 * 0 + _ ≤ _; exact Nat.le_of_eq rfl) (hb hby at_70) (fun _ _ => ⟨rfl, rfl, (by decide : 7 + 0 ≤ _), (by decide : 344 + 0 ≤ _)⟩)
    dsimp only [Pt.U, Pt.locs, Pt.cells, Pt.slots] at X18 l18 y18 z18 st18 hQ18
    subst l18 y18 z18
    obtain ⟨rfl, N18q, Qe18⟩ := hQ18
    have N18 := Fr.app N14 N18q
    have ac19 : ∀ t, Steps p.tables e below (T18.setTop (mkF m 73 #[.val (.int p1), .val (.int p2), .val (.int p3), .val (.int p4), .val (.int p5), .val (.ref b1), .val (.ref bB_4), .val (.int (Int32.ofNat 256)), .unset, .unset, .unset, .unset] [(.ref bB_4)])) t → Steps p.tables e below (s₁.setTop (entryFrame m #[(.int p1), (.int p2), (.int p3), (.int p4), (.int p5)] maxLocals)) t := fun t k => ac17 t (st18.trans k)
    have ac20 : ∀ t, Steps p.tables e below (T18.setTop (mkF m 77 #[.val (.int p1), .val (.int p2), .val (.int p3), .val (.int p4), .val (.int p5), .val (.ref b1), .val (.ref bB_4), .val (.int (Int32.ofNat 256)), .val (.ref bB_4), .unset, .unset, .unset] [(.ref b1)])) t → Steps p.tables e below (s₁.setTop (entryFrame m #[(.int p1), (.int p2), (.int p3), (.int p4), (.int p5)] maxLocals)) t := fun t k => ac19 t (by
        show Steps p.tables e below (T18.setTop (mkF m 73 #[.val (.int p1), .val (.int p2), .val (.int p3), .val (.int p4), .val (.int p5), .val (.ref b1), .val (.ref bB_4), .val (.int (Int32.ofNat 256)), .unset, .unset, .unset, .unset] [(.ref bB_4)])) _
        refine XS.astore X18.here hx rfl (hb hby at_73) rfl rfl (l' := #[.val (.int p1), .val (.int p2), .val (.int p3), .val (.int p4), .val (.int p5), .val (.ref b1), .val (.ref bB_4), .val (.int (Int32.ofNat 256)), .val (.ref bB_4), .unset, .unset, .unset]) rfl ?_
        show Steps p.tables e below (T18.setTop (mkF m 75 #[.val (.int p1), .val (.int p2), .val (.int p3), .val (.int p4), .val (.int p5), .val (.ref b1), .val (.ref bB_4), .val (.int (Int32.ofNat 256)), .val (.ref bB_4), .unset, .unset, .unset] [])) _
        refine XS.aload X18.here hx rfl (hb hby at_75) rfl rfl ?_
        exact k)
    obtain ⟨cq21, kq21, q21a, q21b, q21c⟩ := isOf hZ Qe18 HB14.1
    obtain ⟨_, _, ⟨T21, L21, k21, n21⟩, -, X21, ⟨Lc21, hQ21, l21, y21, z21⟩, st21⟩ := X18.virtualBack hx (y := (⟨"com/example/termwright/termwright/TokenList", "size", "()I"⟩ : MethodName)) (z := (⟨"com/example/termwright/termwright/TokenList", "size", "()I"⟩ : MethodName)) hown (mvT hZ (hw _ (List.mem_of_getElem? (i := 37) rfl))) (mvT hZ (hw _ (List.mem_of_getElem? (i := 38) rfl))) (notFace_of_selects (args := #[]) (mvT hZ (hw _ (List.mem_of_getElem? (i := 40) rfl)))) (mvT hZ (hw _ (List.mem_of_getElem? (i := 40) rfl))) (mvT hZ (hw _ (List.mem_of_getElem? (i := 39) rfl))) (by decide) (backOf (W := 0) (rm5 l Z a0 hw [] b1 _ _ _ _ _ _ _ _ _ _ _ _ _ _ _  T14.heap n0 Z14 HB14) hZ (hw _ (List.mem_of_getElem? (i := 41) rfl)) (hw _ (List.mem_of_getElem? (i := 2) rfl)) (by decide) (by decide)) q21a q21c (g := (mkF m 77 #[.val (.int p1), .val (.int p2), .val (.int p3), .val (.int p4), .val (.int p5), .val (.ref b1), .val (.ref bB_4), .val (.int (Int32.ofNat 256)), .val (.ref bB_4), .unset, .unset, .unset] [(.ref b1)])) rfl (by rw [hml]; rfl) (Steps.refl _) (argsL := []) (rest := []) (lenOf pd_2 rfl) rfl (by show 2 * 0 + _ ≤ _; exact Nat.le_of_eq rfl) (hb hby at_77) (fun _ _ => ⟨rfl, Qe18, (by decide : 7 + 0 ≤ _), (by decide : 344 + 0 ≤ _)⟩)
    dsimp only [Pt.U, Pt.locs, Pt.cells, Pt.slots] at X21 l21 y21 z21 st21 hQ21
    subst l21 y21 z21
    obtain ⟨rfl, N21q, Qe21⟩ := hQ21
    have N21 := Fr.app N18 N21q
    have ac22 : ∀ t, Steps p.tables e below (T21.setTop (mkF m 80 #[.val (.int p1), .val (.int p2), .val (.int p3), .val (.int p4), .val (.int p5), .val (.ref b1), .val (.ref bB_4), .val (.int (Int32.ofNat 256)), .val (.ref bB_4), .unset, .unset, .unset] [(.int (0 : Int32))])) t → Steps p.tables e below (s₁.setTop (entryFrame m #[(.int p1), (.int p2), (.int p3), (.int p4), (.int p5)] maxLocals)) t := fun t k => ac20 t (st21.trans k)
    obtain ⟨-, -, -, -, -, -, -, -, -, -, -, -, -, -, Vb1, -⟩ := id HB14
    have ac23 : ∀ t, Steps p.tables e below (T21.setTop (mkF m 148 #[.val (.int p1), .val (.int p2), .val (.int p3), .val (.int p4), .val (.int p5), .val (.ref b1), .val (.ref bB_4), .val (.int (Int32.ofNat 256)), .val (.ref bB_4), .val (.int (1 : Int32)), .unset, .unset] [(.ref bB_4), (.int (p5 &&& (2147483647 : Int32)))])) t → Steps p.tables e below (s₁.setTop (entryFrame m #[(.int p1), (.int p2), (.int p3), (.int p4), (.int p5)] maxLocals)) t := fun t k => ac22 t (by
        show Steps p.tables e below (T21.setTop (mkF m 80 #[.val (.int p1), .val (.int p2), .val (.int p3), .val (.int p4), .val (.int p5), .val (.ref b1), .val (.ref bB_4), .val (.int (Int32.ofNat 256)), .val (.ref bB_4), .unset, .unset, .unset] [(.int (0 : Int32))])) _
        refine XS.ifNo X21.here hx rfl (hb hby at_80) rfl ((if0 _ _).trans (teq rfl).2) ?_
        show Steps p.tables e below (T21.setTop (mkF m 83 #[.val (.int p1), .val (.int p2), .val (.int p3), .val (.int p4), .val (.int p5), .val (.ref b1), .val (.ref bB_4), .val (.int (Int32.ofNat 256)), .val (.ref bB_4), .unset, .unset, .unset] [])) _
        refine XS.iconst X21.here hx rfl (hb hby at_83) ?_
        show Steps p.tables e below (T21.setTop (mkF m 84 #[.val (.int p1), .val (.int p2), .val (.int p3), .val (.int p4), .val (.int p5), .val (.ref b1), .val (.ref bB_4), .val (.int (Int32.ofNat 256)), .val (.ref bB_4), .unset, .unset, .unset] [(.int (1 : Int32))])) _
        refine XS.goto X21.here hx rfl (pc0 := 84) (pc' := 88) rfl (hb hby at_84) (by decide) (by decide) ?_
        show Steps p.tables e below (T21.setTop (mkF m 88 #[.val (.int p1), .val (.int p2), .val (.int p3), .val (.int p4), .val (.int p5), .val (.ref b1), .val (.ref bB_4), .val (.int (Int32.ofNat 256)), .val (.ref bB_4), .unset, .unset, .unset] [(.int (1 : Int32))])) _
        refine XS.istore X21.here hx rfl (hb hby at_88) rfl (l' := #[.val (.int p1), .val (.int p2), .val (.int p3), .val (.int p4), .val (.int p5), .val (.ref b1), .val (.ref bB_4), .val (.int (Int32.ofNat 256)), .val (.ref bB_4), .val (.int (1 : Int32)), .unset, .unset]) rfl ?_
        show Steps p.tables e below (T21.setTop (mkF m 90 #[.val (.int p1), .val (.int p2), .val (.int p3), .val (.int p4), .val (.int p5), .val (.ref b1), .val (.ref bB_4), .val (.int (Int32.ofNat 256)), .val (.ref bB_4), .val (.int (1 : Int32)), .unset, .unset] [])) _
        refine XS.iload X21.here hx rfl (hb hby at_90) rfl ?_
        show Steps p.tables e below (T21.setTop (mkF m 92 #[.val (.int p1), .val (.int p2), .val (.int p3), .val (.int p4), .val (.int p5), .val (.ref b1), .val (.ref bB_4), .val (.int (Int32.ofNat 256)), .val (.ref bB_4), .val (.int (1 : Int32)), .unset, .unset] [(.int (Int32.ofNat 256))])) _
        refine XS.sipush X21.here hx rfl (hb hby at_92) ?_
        show Steps p.tables e below (T21.setTop (mkF m 95 #[.val (.int p1), .val (.int p2), .val (.int p3), .val (.int p4), .val (.int p5), .val (.ref b1), .val (.ref bB_4), .val (.int (Int32.ofNat 256)), .val (.ref bB_4), .val (.int (1 : Int32)), .unset, .unset] [(.int (16384 : Int32)), (.int (Int32.ofNat 256))])) _
        refine XS.icmpYes X21.here hx rfl (pc0 := 95) (pc' := 122) rfl (hb hby at_95) rfl (flt (own_nlt_of (by omega))).2.2.2 (by decide) (by decide) ?_
        show Steps p.tables e below (T21.setTop (mkF m 122 #[.val (.int p1), .val (.int p2), .val (.int p3), .val (.int p4), .val (.int p5), .val (.ref b1), .val (.ref bB_4), .val (.int (Int32.ofNat 256)), .val (.ref bB_4), .val (.int (1 : Int32)), .unset, .unset] [])) _
        refine XS.iload X21.here hx rfl (hb hby at_122) rfl ?_
        show Steps p.tables e below (T21.setTop (mkF m 124 #[.val (.int p1), .val (.int p2), .val (.int p3), .val (.int p4), .val (.int p5), .val (.ref b1), .val (.ref bB_4), .val (.int (Int32.ofNat 256)), .val (.ref bB_4), .val (.int (1 : Int32)), .unset, .unset] [(.int (1 : Int32))])) _
        refine XS.ifNo X21.here hx rfl (hb hby at_124) rfl ((if0 _ _).trans (feq (by decide)).1) ?_
        show Steps p.tables e below (T21.setTop (mkF m 127 #[.val (.int p1), .val (.int p2), .val (.int p3), .val (.int p4), .val (.int p5), .val (.ref b1), .val (.ref bB_4), .val (.int (Int32.ofNat 256)), .val (.ref bB_4), .val (.int (1 : Int32)), .unset, .unset] [])) _
        refine XS.aload X21.here hx rfl (hb hby at_127) rfl rfl ?_
        show Steps p.tables e below (T21.setTop (mkF m 129 #[.val (.int p1), .val (.int p2), .val (.int p3), .val (.int p4), .val (.int p5), .val (.ref b1), .val (.ref bB_4), .val (.int (Int32.ofNat 256)), .val (.ref bB_4), .val (.int (1 : Int32)), .unset, .unset] [(.ref bB_4)])) _
        refine XS.aload X21.here hx rfl (hb hby at_129) rfl rfl ?_
        show Steps p.tables e below (T21.setTop (mkF m 131 #[.val (.int p1), .val (.int p2), .val (.int p3), .val (.int p4), .val (.int p5), .val (.ref b1), .val (.ref bB_4), .val (.int (Int32.ofNat 256)), .val (.ref bB_4), .val (.int (1 : Int32)), .unset, .unset] [(.ref bB_4), (.ref bB_4)])) _
        refine Jvm.RoadKit.acmp (g := (mkF m 131 #[.val (.int p1), .val (.int p2), .val (.int p3), .val (.int p4), .val (.int p5), .val (.ref b1), .val (.ref bB_4), .val (.int (Int32.ofNat 256)), .val (.ref bB_4), .val (.int (1 : Int32)), .unset, .unset] [(.ref bB_4), (.ref bB_4)])) X21 hx rfl rfl rfl (pc0 := 131) (pc' := 134) (same := true) rfl (hb hby at_131) rfl (decide_eq_true rfl) (by decide) (by decide) ?_
        show Steps p.tables e below (T21.setTop (mkF m 134 #[.val (.int p1), .val (.int p2), .val (.int p3), .val (.int p4), .val (.int p5), .val (.ref b1), .val (.ref bB_4), .val (.int (Int32.ofNat 256)), .val (.ref bB_4), .val (.int (1 : Int32)), .unset, .unset] [])) _
        refine XS.iconst X21.here hx rfl (hb hby at_134) ?_
        show Steps p.tables e below (T21.setTop (mkF m 135 #[.val (.int p1), .val (.int p2), .val (.int p3), .val (.int p4), .val (.int p5), .val (.ref b1), .val (.ref bB_4), .val (.int (Int32.ofNat 256)), .val (.ref bB_4), .val (.int (1 : Int32)), .unset, .unset] [(.int (1 : Int32))])) _
        refine XS.goto X21.here hx rfl (pc0 := 135) (pc' := 139) rfl (hb hby at_135) (by decide) (by decide) ?_
        show Steps p.tables e below (T21.setTop (mkF m 139 #[.val (.int p1), .val (.int p2), .val (.int p3), .val (.int p4), .val (.int p5), .val (.ref b1), .val (.ref bB_4), .val (.int (Int32.ofNat 256)), .val (.ref bB_4), .val (.int (1 : Int32)), .unset, .unset] [(.int (1 : Int32))])) _
        refine XS.istore X21.here hx rfl (hb hby at_139) rfl (l' := #[.val (.int p1), .val (.int p2), .val (.int p3), .val (.int p4), .val (.int p5), .val (.ref b1), .val (.ref bB_4), .val (.int (Int32.ofNat 256)), .val (.ref bB_4), .val (.int (1 : Int32)), .unset, .unset]) rfl ?_
        show Steps p.tables e below (T21.setTop (mkF m 141 #[.val (.int p1), .val (.int p2), .val (.int p3), .val (.int p4), .val (.int p5), .val (.ref b1), .val (.ref bB_4), .val (.int (Int32.ofNat 256)), .val (.ref bB_4), .val (.int (1 : Int32)), .unset, .unset] [])) _
        refine XS.iload X21.here hx rfl (hb hby at_141) rfl ?_
        show Steps p.tables e below (T21.setTop (mkF m 143 #[.val (.int p1), .val (.int p2), .val (.int p3), .val (.int p4), .val (.int p5), .val (.ref b1), .val (.ref bB_4), .val (.int (Int32.ofNat 256)), .val (.ref bB_4), .val (.int (1 : Int32)), .unset, .unset] [(.int p5)])) _
        refine X21.ldcInt hx hown (mvT hZ (hw _ (List.mem_of_getElem? (i := 42) rfl))) (g := (mkF m 143 #[.val (.int p1), .val (.int p2), .val (.int p3), .val (.int p4), .val (.int p5), .val (.ref b1), .val (.ref bB_4), .val (.int (Int32.ofNat 256)), .val (.ref bB_4), .val (.int (1 : Int32)), .unset, .unset] [(.int p5)])) rfl (hb hby at_143) _ ?_
        show Steps p.tables e below (T21.setTop (mkF m 145 #[.val (.int p1), .val (.int p2), .val (.int p3), .val (.int p4), .val (.int p5), .val (.ref b1), .val (.ref bB_4), .val (.int (Int32.ofNat 256)), .val (.ref bB_4), .val (.int (1 : Int32)), .unset, .unset] [(.int (2147483647 : Int32)), (.int p5)])) _
        refine XS.iand X21.here hx rfl (hb hby at_145) rfl ?_
        show Steps p.tables e below (T21.setTop (mkF m 146 #[.val (.int p1), .val (.int p2), .val (.int p3), .val (.int p4), .val (.int p5), .val (.ref b1), .val (.ref bB_4), .val (.int (Int32.ofNat 256)), .val (.ref bB_4), .val (.int (1 : Int32)), .unset, .unset] [(.int (p5 &&& (2147483647 : Int32)))])) _
        refine XS.aload X21.here hx rfl (hb hby at_146) rfl rfl ?_
        exact k)
    obtain ⟨cl24, Ac24, hl24, hb24⟩ := Vb1.len
    have hlen2 := own_ofNat hb24
    have hp1 := own_p1 hlen2 hle16
    have hr2 := own_remle (p := p5) hp1
    have hs2 := own_sub0 256 (by omega)
    have ac25 : ∀ t, Steps p.tables e below (T21.setTop (mkF m 162 #[.val (.int p1), .val (.int p2), .val (.int p3), .val (.int p4), .val (.int p5), .val (.ref b1), .val (.ref bB_4), .val (.int (Int32.ofNat 256)), .val (.ref bB_4), .val (.int (1 : Int32)), .val (.int ((p5 &&& (2147483647 : Int32)) % ((Int32.ofNat 256) + (1 : Int32)))), .unset] [(.int ((p5 &&& (2147483647 : Int32)) % ((Int32.ofNat 256) + (1 : Int32)))), (.int (p4 ^^^ (-1 : Int32))), (.int p4), (.ref b1)])) t → Steps p.tables e below (s₁.setTop (entryFrame m #[(.int p1), (.int p2), (.int p3), (.int p4), (.int p5)] maxLocals)) t := fun t k => ac23 t (by
        show Steps p.tables e below (T21.setTop (mkF m 148 #[.val (.int p1), .val (.int p2), .val (.int p3), .val (.int p4), .val (.int p5), .val (.ref b1), .val (.ref bB_4), .val (.int (Int32.ofNat 256)), .val (.ref bB_4), .val (.int (1 : Int32)), .unset, .unset] [(.ref bB_4), (.int (p5 &&& (2147483647 : Int32)))])) _
        refine X21.arraylength hx (by rw [Qe21]; exact Ac24.1) (State.isArrayOf_alike hZ.alike Ac24.2.1) (g := (mkF m 148 #[.val (.int p1), .val (.int p2), .val (.int p3), .val (.int p4), .val (.int p5), .val (.ref b1), .val (.ref bB_4), .val (.int (Int32.ofNat 256)), .val (.ref bB_4), .val (.int (1 : Int32)), .unset, .unset] [(.ref bB_4), (.int (p5 &&& (2147483647 : Int32)))])) rfl rfl (hb hby at_148) _ ?_
        rw [hl24]
        show Steps p.tables e below (T21.setTop (mkF m 149 #[.val (.int p1), .val (.int p2), .val (.int p3), .val (.int p4), .val (.int p5), .val (.ref b1), .val (.ref bB_4), .val (.int (Int32.ofNat 256)), .val (.ref bB_4), .val (.int (1 : Int32)), .unset, .unset] [(.int (Int32.ofNat 256)), (.int (p5 &&& (2147483647 : Int32)))])) _
        refine XS.iconst X21.here hx rfl (hb hby at_149) ?_
        show Steps p.tables e below (T21.setTop (mkF m 150 #[.val (.int p1), .val (.int p2), .val (.int p3), .val (.int p4), .val (.int p5), .val (.ref b1), .val (.ref bB_4), .val (.int (Int32.ofNat 256)), .val (.ref bB_4), .val (.int (1 : Int32)), .unset, .unset] [(.int (1 : Int32)), (.int (Int32.ofNat 256)), (.int (p5 &&& (2147483647 : Int32)))])) _
        refine XS.iadd X21.here hx rfl (hb hby at_150) rfl ?_
        show Steps p.tables e below (T21.setTop (mkF m 151 #[.val (.int p1), .val (.int p2), .val (.int p3), .val (.int p4), .val (.int p5), .val (.ref b1), .val (.ref bB_4), .val (.int (Int32.ofNat 256)), .val (.ref bB_4), .val (.int (1 : Int32)), .unset, .unset] [(.int ((Int32.ofNat 256) + (1 : Int32))), (.int (p5 &&& (2147483647 : Int32)))])) _
        refine iremM X21 hx rfl (hb hby at_151) rfl (own_nz hp1) ?_
        show Steps p.tables e below (T21.setTop (mkF m 152 #[.val (.int p1), .val (.int p2), .val (.int p3), .val (.int p4), .val (.int p5), .val (.ref b1), .val (.ref bB_4), .val (.int (Int32.ofNat 256)), .val (.ref bB_4), .val (.int (1 : Int32)), .unset, .unset] [(.int ((p5 &&& (2147483647 : Int32)) % ((Int32.ofNat 256) + (1 : Int32))))])) _
        refine XS.istore X21.here hx rfl (hb hby at_152) rfl (l' := #[.val (.int p1), .val (.int p2), .val (.int p3), .val (.int p4), .val (.int p5), .val (.ref b1), .val (.ref bB_4), .val (.int (Int32.ofNat 256)), .val (.ref bB_4), .val (.int (1 : Int32)), .val (.int ((p5 &&& (2147483647 : Int32)) % ((Int32.ofNat 256) + (1 : Int32)))), .unset]) rfl ?_
        show Steps p.tables e below (T21.setTop (mkF m 154 #[.val (.int p1), .val (.int p2), .val (.int p3), .val (.int p4), .val (.int p5), .val (.ref b1), .val (.ref bB_4), .val (.int (Int32.ofNat 256)), .val (.ref bB_4), .val (.int (1 : Int32)), .val (.int ((p5 &&& (2147483647 : Int32)) % ((Int32.ofNat 256) + (1 : Int32)))), .unset] [])) _
        refine XS.aload X21.here hx rfl (hb hby at_154) rfl rfl ?_
        show Steps p.tables e below (T21.setTop (mkF m 156 #[.val (.int p1), .val (.int p2), .val (.int p3), .val (.int p4), .val (.int p5), .val (.ref b1), .val (.ref bB_4), .val (.int (Int32.ofNat 256)), .val (.ref bB_4), .val (.int (1 : Int32)), .val (.int ((p5 &&& (2147483647 : Int32)) % ((Int32.ofNat 256) + (1 : Int32)))), .unset] [(.ref b1)])) _
        refine XS.iloadN X21.here hx rfl (hb hby at_156) rfl ?_
        show Steps p.tables e below (T21.setTop (mkF m 157 #[.val (.int p1), .val (.int p2), .val (.int p3), .val (.int p4), .val (.int p5), .val (.ref b1), .val (.ref bB_4), .val (.int (Int32.ofNat 256)), .val (.ref bB_4), .val (.int (1 : Int32)), .val (.int ((p5 &&& (2147483647 : Int32)) % ((Int32.ofNat 256) + (1 : Int32)))), .unset] [(.int p4), (.ref b1)])) _
        refine XS.iloadN X21.here hx rfl (hb hby at_157) rfl ?_
        show Steps p.tables e below (T21.setTop (mkF m 158 #[.val (.int p1), .val (.int p2), .val (.int p3), .val (.int p4), .val (.int p5), .val (.ref b1), .val (.ref bB_4), .val (.int (Int32.ofNat 256)), .val (.ref bB_4), .val (.int (1 : Int32)), .val (.int ((p5 &&& (2147483647 : Int32)) % ((Int32.ofNat 256) + (1 : Int32)))), .unset] [(.int p4), (.int p4), (.ref b1)])) _
        refine XS.iconst X21.here hx rfl (hb hby at_158) ?_
        show Steps p.tables e below (T21.setTop (mkF m 159 #[.val (.int p1), .val (.int p2), .val (.int p3), .val (.int p4), .val (.int p5), .val (.ref b1), .val (.ref bB_4), .val (.int (Int32.ofNat 256)), .val (.ref bB_4), .val (.int (1 : Int32)), .val (.int ((p5 &&& (2147483647 : Int32)) % ((Int32.ofNat 256) + (1 : Int32)))), .unset] [(.int (-1 : Int32)), (.int p4), (.int p4), (.ref b1)])) _
        refine XS.ixor X21.here hx rfl (hb hby at_159) rfl ?_
        show Steps p.tables e below (T21.setTop (mkF m 160 #[.val (.int p1), .val (.int p2), .val (.int p3), .val (.int p4), .val (.int p5), .val (.ref b1), .val (.ref bB_4), .val (.int (Int32.ofNat 256)), .val (.ref bB_4), .val (.int (1 : Int32)), .val (.int ((p5 &&& (2147483647 : Int32)) % ((Int32.ofNat 256) + (1 : Int32)))), .unset] [(.int (p4 ^^^ (-1 : Int32))), (.int p4), (.ref b1)])) _
        refine XS.iload X21.here hx rfl (hb hby at_160) rfl ?_
        exact k)
    obtain ⟨cq26, kq26, q26a, q26b, q26c⟩ := isOf hZ Qe21 HB14.1
    obtain ⟨_, _, ⟨T26, L26, k26, n26⟩, -, X26, ⟨Lc26, hQ26, l26, y26, z26⟩, st26⟩ := X21.virtualBack hx (y := (⟨"com/example/termwright/termwright/TokenList", "add", "(III)I"⟩ : MethodName)) (z := (⟨"com/example/termwright/termwright/TokenList", "add", "(III)I"⟩ : MethodName)) hown (mvT hZ (hw _ (List.mem_of_getElem? (i := 43) rfl))) (mvT hZ (hw _ (List.mem_of_getElem? (i := 44) rfl))) (notFace_of_selects (args := #[]) (mvT hZ (hw _ (List.mem_of_getElem? (i := 46) rfl)))) (mvT hZ (hw _ (List.mem_of_getElem? (i := 46) rfl))) (mvT hZ (hw _ (List.mem_of_getElem? (i := 45) rfl))) (by decide) (backOf (W := 0) (rm6n l Z a0 hw [] b1 p4 (p4 ^^^ (-1 : Int32)) ((p5 &&& (2147483647 : Int32)) % ((Int32.ofNat 256) + (1 : Int32))) _ _ _ _ _ _ _ _ _ _ _ _ _  T14.heap n0 Z14 HB14 g_b1 (own_nlt_of (by omega))) hZ (hw _ (List.mem_of_getElem? (i := 47) rfl)) (hw _ (List.mem_of_getElem? (i := 2) rfl)) (by decide) (by decide)) q26a q26c (g := (mkF m 162 #[.val (.int p1), .val (.int p2), .val (.int p3), .val (.int p4), .val (.int p5), .val (.ref b1), .val (.ref bB_4), .val (.int (Int32.ofNat 256)), .val (.ref bB_4), .val (.int (1 : Int32)), .val (.int ((p5 &&& (2147483647 : Int32)) % ((Int32.ofNat 256) + (1 : Int32)))), .unset] [(.int ((p5 &&& (2147483647 : Int32)) % ((Int32.ofNat 256) + (1 : Int32)))), (.int (p4 ^^^ (-1 : Int32))), (.int p4), (.ref b1)])) rfl (by rw [hml]; rfl) (Steps.refl _) (argsL := [(.int p4), (.int (p4 ^^^ (-1 : Int32))), (.int ((p5 &&& (2147483647 : Int32)) % ((Int32.ofNat 256) + (1 : Int32))))]) (rest := []) (lenOf pd_3 rfl) rfl (by show 2 * 0 + _ ≤ _; exact Nat.le_of_eq rfl) (hb hby at_162) (fun _ _ => ⟨rfl, Qe21, (by decide : 7 + 0 ≤ _), (by decide : 344 + 0 ≤ _)⟩)
    dsimp only [Pt.U, Pt.locs, Pt.cells, Pt.slots] at X26 l26 y26 z26 st26 hQ26
    subst l26 y26 z26
    obtain ⟨f1_26, f2_26, f3_26, f4_26, f5_26, rfl, N26q, K26q, hf26, HB26⟩ := hQ26
    have N26 := Fr.app N21 N26q
    have Ef27 := HB14.1.keep K26q
    have Z26 : n0 ≤ T26.heap.size := Nat.le_trans Z14 K26q.1
    have ac28 : ∀ t, Steps p.tables e below (T26.setTop (mkF m 165 #[.val (.int p1), .val (.int p2), .val (.int p3), .val (.int p4), .val (.int p5), .val (.ref b1), .val (.ref bB_4), .val (.int (Int32.ofNat 256)), .val (.ref bB_4), .val (.int (1 : Int32)), .val (.int ((p5 &&& (2147483647 : Int32)) % ((Int32.ofNat 256) + (1 : Int32)))), .unset] [(.int (0 : Int32))])) t → Steps p.tables e below (s₁.setTop (entryFrame m #[(.int p1), (.int p2), (.int p3), (.int p4), (.int p5)] maxLocals)) t := fun t k => ac25 t (st26.trans k)
    have ac29 : ∀ t, Steps p.tables e below (T26.setTop (mkF m 179 #[.val (.int p1), .val (.int p2), .val (.int p3), .val (.int p4), .val (.int p5), .val (.ref b1), .val (.ref bB_4), .val (.int (Int32.ofNat 256)), .val (.ref bB_4), .val (.int (1 : Int32)), .val (.int ((p5 &&& (2147483647 : Int32)) % ((Int32.ofNat 256) + (1 : Int32)))), .val (.int (0 : Int32))] [(.ref b1)])) t → Steps p.tables e below (s₁.setTop (entryFrame m #[(.int p1), (.int p2), (.int p3), (.int p4), (.int p5)] maxLocals)) t := fun t k => ac28 t (by
        show Steps p.tables e below (T26.setTop (mkF m 165 #[.val (.int p1), .val (.int p2), .val (.int p3), .val (.int p4), .val (.int p5), .val (.ref b1), .val (.ref bB_4), .val (.int (Int32.ofNat 256)), .val (.ref bB_4), .val (.int (1 : Int32)), .val (.int ((p5 &&& (2147483647 : Int32)) % ((Int32.ofNat 256) + (1 : Int32)))), .unset] [(.int (0 : Int32))])) _
        refine XS.istore X26.here hx rfl (hb hby at_165) rfl (l' := #[.val (.int p1), .val (.int p2), .val (.int p3), .val (.int p4), .val (.int p5), .val (.ref b1), .val (.ref bB_4), .val (.int (Int32.ofNat 256)), .val (.ref bB_4), .val (.int (1 : Int32)), .val (.int ((p5 &&& (2147483647 : Int32)) % ((Int32.ofNat 256) + (1 : Int32)))), .val (.int (0 : Int32))]) rfl ?_
        show Steps p.tables e below (T26.setTop (mkF m 167 #[.val (.int p1), .val (.int p2), .val (.int p3), .val (.int p4), .val (.int p5), .val (.ref b1), .val (.ref bB_4), .val (.int (Int32.ofNat 256)), .val (.ref bB_4), .val (.int (1 : Int32)), .val (.int ((p5 &&& (2147483647 : Int32)) % ((Int32.ofNat 256) + (1 : Int32)))), .val (.int (0 : Int32))] [])) _
        refine XS.iload X26.here hx rfl (hb hby at_167) rfl ?_
        show Steps p.tables e below (T26.setTop (mkF m 169 #[.val (.int p1), .val (.int p2), .val (.int p3), .val (.int p4), .val (.int p5), .val (.ref b1), .val (.ref bB_4), .val (.int (Int32.ofNat 256)), .val (.ref bB_4), .val (.int (1 : Int32)), .val (.int ((p5 &&& (2147483647 : Int32)) % ((Int32.ofNat 256) + (1 : Int32)))), .val (.int (0 : Int32))] [(.int (1 : Int32))])) _
        refine XS.ifNo X26.here hx rfl (hb hby at_169) rfl ((if0 _ _).trans (feq (by decide)).1) ?_
        show Steps p.tables e below (T26.setTop (mkF m 172 #[.val (.int p1), .val (.int p2), .val (.int p3), .val (.int p4), .val (.int p5), .val (.ref b1), .val (.ref bB_4), .val (.int (Int32.ofNat 256)), .val (.ref bB_4), .val (.int (1 : Int32)), .val (.int ((p5 &&& (2147483647 : Int32)) % ((Int32.ofNat 256) + (1 : Int32)))), .val (.int (0 : Int32))] [])) _
        refine XS.iload X26.here hx rfl (hb hby at_172) rfl ?_
        show Steps p.tables e below (T26.setTop (mkF m 174 #[.val (.int p1), .val (.int p2), .val (.int p3), .val (.int p4), .val (.int p5), .val (.ref b1), .val (.ref bB_4), .val (.int (Int32.ofNat 256)), .val (.ref bB_4), .val (.int (1 : Int32)), .val (.int ((p5 &&& (2147483647 : Int32)) % ((Int32.ofNat 256) + (1 : Int32)))), .val (.int (0 : Int32))] [(.int (0 : Int32))])) _
        refine XS.ifNo X26.here hx rfl (hb hby at_174) rfl ((if0 _ _).trans (teq rfl).2) ?_
        show Steps p.tables e below (T26.setTop (mkF m 177 #[.val (.int p1), .val (.int p2), .val (.int p3), .val (.int p4), .val (.int p5), .val (.ref b1), .val (.ref bB_4), .val (.int (Int32.ofNat 256)), .val (.ref bB_4), .val (.int (1 : Int32)), .val (.int ((p5 &&& (2147483647 : Int32)) % ((Int32.ofNat 256) + (1 : Int32)))), .val (.int (0 : Int32))] [])) _
        refine XS.aload X26.here hx rfl (hb hby at_177) rfl rfl ?_
        exact k)
    obtain ⟨cq30, kq30, q30a, q30b, q30c⟩ := isOf hZ rfl HB26.1
    obtain ⟨_, _, ⟨T30, L30, k30, n30⟩, -, X30, ⟨Lc30, hQ30, l30, y30, z30⟩, st30⟩ := X26.virtualBack hx (y := (⟨"com/example/termwright/termwright/TokenList", "termBytes", "()[B"⟩ : MethodName)) (z := (⟨"com/example/termwright/termwright/TokenList", "termBytes", "()[B"⟩ : MethodName)) hown (mvT hZ (hw _ (List.mem_of_getElem? (i := 23) rfl))) (mvT hZ (hw _ (List.mem_of_getElem? (i := 24) rfl))) (notFace_of_selects (args := #[]) (mvT hZ (hw _ (List.mem_of_getElem? (i := 26) rfl)))) (mvT hZ (hw _ (List.mem_of_getElem? (i := 26) rfl))) (mvT hZ (hw _ (List.mem_of_getElem? (i := 25) rfl))) (by decide) (backOf (W := 0) (rm3 l Z a0 hw [] b1 _ _ _ _ _ _ _ _ _ _ _ _ _ _ _  T26.heap n0 Z26 HB26) hZ (hw _ (List.mem_of_getElem? (i := 27) rfl)) (hw _ (List.mem_of_getElem? (i := 2) rfl)) (by decide) (by decide)) q30a q30c (g := (mkF m 179 #[.val (.int p1), .val (.int p2), .val (.int p3), .val (.int p4), .val (.int p5), .val (.ref b1), .val (.ref bB_4), .val (.int (Int32.ofNat 256)), .val (.ref bB_4), .val (.int (1 : Int32)), .val (.int ((p5 &&& (2147483647 : Int32)) % ((Int32.ofNat 256) + (1 : Int32)))), .val (.int (0 : Int32))] [(.ref b1)])) rfl (by rw [hml]; rfl) (Steps.refl _) (argsL := []) (rest := []) (lenOf pd_1 rfl) rfl (by show 2 * 0 + _ ≤ _; exact Nat.le_of_eq rfl) (hb hby at_179) (fun _ _ => ⟨rfl, rfl, (by decide : 7 + 0 ≤ _), (by decide : 344 + 0 ≤ _)⟩)
    dsimp only [Pt.U, Pt.locs, Pt.cells, Pt.slots] at X30 l30 y30 z30 st30 hQ30
    subst l30 y30 z30
    obtain ⟨rfl, N30q, Qe30⟩ := hQ30
    have N30 := Fr.app N26 N30q
    have ac31 : ∀ t, Steps p.tables e below (T30.setTop (mkF m 182 #[.val (.int p1), .val (.int p2), .val (.int p3), .val (.int p4), .val (.int p5), .val (.ref b1), .val (.ref bB_4), .val (.int (Int32.ofNat 256)), .val (.ref bB_4), .val (.int (1 : Int32)), .val (.int ((p5 &&& (2147483647 : Int32)) % ((Int32.ofNat 256) + (1 : Int32)))), .val (.int (0 : Int32))] [(.ref bB_4)])) t → Steps p.tables e below (s₁.setTop (entryFrame m #[(.int p1), (.int p2), (.int p3), (.int p4), (.int p5)] maxLocals)) t := fun t k => ac29 t (st30.trans k)
    have ac32 : ∀ t, Steps p.tables e below (T30.setTop (mkF m 190 #[.val (.int p1), .val (.int p2), .val (.int p3), .val (.int p4), .val (.int p5), .val (.ref b1), .val (.ref bB_4), .val (.int (Int32.ofNat 256)), .val (.ref bB_4), .val (.int (1 : Int32)), .val (.int ((p5 &&& (2147483647 : Int32)) % ((Int32.ofNat 256) + (1 : Int32)))), .val (.int (0 : Int32))] [(.int (0 : Int32)), (.ref b1)])) t → Steps p.tables e below (s₁.setTop (entryFrame m #[(.int p1), (.int p2), (.int p3), (.int p4), (.int p5)] maxLocals)) t := fun t k => ac31 t (by
        show Steps p.tables e below (T30.setTop (mkF m 182 #[.val (.int p1), .val (.int p2), .val (.int p3), .val (.int p4), .val (.int p5), .val (.ref b1), .val (.ref bB_4), .val (.int (Int32.ofNat 256)), .val (.ref bB_4), .val (.int (1 : Int32)), .val (.int ((p5 &&& (2147483647 : Int32)) % ((Int32.ofNat 256) + (1 : Int32)))), .val (.int (0 : Int32))] [(.ref bB_4)])) _
        refine XS.aload X30.here hx rfl (hb hby at_182) rfl rfl ?_
        show Steps p.tables e below (T30.setTop (mkF m 184 #[.val (.int p1), .val (.int p2), .val (.int p3), .val (.int p4), .val (.int p5), .val (.ref b1), .val (.ref bB_4), .val (.int (Int32.ofNat 256)), .val (.ref bB_4), .val (.int (1 : Int32)), .val (.int ((p5 &&& (2147483647 : Int32)) % ((Int32.ofNat 256) + (1 : Int32)))), .val (.int (0 : Int32))] [(.ref bB_4), (.ref bB_4)])) _
        refine Jvm.RoadKit.acmp (g := (mkF m 184 #[.val (.int p1), .val (.int p2), .val (.int p3), .val (.int p4), .val (.int p5), .val (.ref b1), .val (.ref bB_4), .val (.int (Int32.ofNat 256)), .val (.ref bB_4), .val (.int (1 : Int32)), .val (.int ((p5 &&& (2147483647 : Int32)) % ((Int32.ofNat 256) + (1 : Int32)))), .val (.int (0 : Int32))] [(.ref bB_4), (.ref bB_4)])) X30 hx rfl rfl rfl (pc0 := 184) (pc' := 187) (same := true) rfl (hb hby at_184) rfl (decide_eq_true rfl) (by decide) (by decide) ?_
        show Steps p.tables e below (T30.setTop (mkF m 187 #[.val (.int p1), .val (.int p2), .val (.int p3), .val (.int p4), .val (.int p5), .val (.ref b1), .val (.ref bB_4), .val (.int (Int32.ofNat 256)), .val (.ref bB_4), .val (.int (1 : Int32)), .val (.int ((p5 &&& (2147483647 : Int32)) % ((Int32.ofNat 256) + (1 : Int32)))), .val (.int (0 : Int32))] [])) _
        refine XS.aload X30.here hx rfl (hb hby at_187) rfl rfl ?_
        show Steps p.tables e below (T30.setTop (mkF m 189 #[.val (.int p1), .val (.int p2), .val (.int p3), .val (.int p4), .val (.int p5), .val (.ref b1), .val (.ref bB_4), .val (.int (Int32.ofNat 256)), .val (.ref bB_4), .val (.int (1 : Int32)), .val (.int ((p5 &&& (2147483647 : Int32)) % ((Int32.ofNat 256) + (1 : Int32)))), .val (.int (0 : Int32))] [(.ref b1)])) _
        refine XS.iconst X30.here hx rfl (hb hby at_189) ?_
        exact k)
    obtain ⟨cq33, kq33, q33a, q33b, q33c⟩ := isOf hZ Qe30 HB26.1
    obtain ⟨_, _, ⟨T33, L33, k33, n33⟩, -, X33, ⟨Lc33, hQ33, l33, y33, z33⟩, st33⟩ := X30.virtualBack hx (y := (⟨"com/example/termwright/termwright/TokenList", "start", "(I)I"⟩ : MethodName)) (z := (⟨"com/example/termwright/termwright/TokenList", "start", "(I)I"⟩ : MethodName)) hown (mvT hZ (hw _ (List.mem_of_getElem? (i := 52) rfl))) (mvT hZ (hw _ (List.mem_of_getElem? (i := 53) rfl))) (notFace_of_selects (args := #[]) (mvT hZ (hw _ (List.mem_of_getElem? (i := 55) rfl)))) (mvT hZ (hw _ (List.mem_of_getElem? (i := 55) rfl))) (mvT hZ (hw _ (List.mem_of_getElem? (i := 54) rfl))) (by decide) (backOf (W := 0) (rm8 l Z a0 hw [] b1 (0 : Int32) _ _ _ _ _ _ _ _ _ _ _ _ _ _ _ p4 T26.heap n0 Z26 HB26 rfl hf26) hZ (hw _ (List.mem_of_getElem? (i := 56) rfl)) (hw _ (List.mem_of_getElem? (i := 2) rfl)) (by decide) (by decide)) q33a q33c (g := (mkF m 190 #[.val (.int p1), .val (.int p2), .val (.int p3), .val (.int p4), .val (.int p5), .val (.ref b1), .val (.ref bB_4), .val (.int (Int32.ofNat 256)), .val (.ref bB_4), .val (.int (1 : Int32)), .val (.int ((p5 &&& (2147483647 : Int32)) % ((Int32.ofNat 256) + (1 : Int32)))), .val (.int (0 : Int32))] [(.int (0 : Int32)), (.ref b1)])) rfl (by rw [hml]; rfl) (Steps.refl _) (argsL := [(.int (0 : Int32))]) (rest := []) (lenOf pd_5 rfl) rfl (by show 2 * 0 + _ ≤ _; exact Nat.le_of_eq rfl) (hb hby at_190) (fun _ _ => ⟨rfl, Qe30, (by decide : 7 + 0 ≤ _), (by decide : 344 + 0 ≤ _)⟩)
    dsimp only [Pt.U, Pt.locs, Pt.cells, Pt.slots] at X33 l33 y33 z33 st33 hQ33
    subst l33 y33 z33
    obtain ⟨rfl, N33q, Qe33⟩ := hQ33
    have N33 := Fr.app N30 N33q
    have ac34 : ∀ t, Steps p.tables e below (T33.setTop (mkF m 193 #[.val (.int p1), .val (.int p2), .val (.int p3), .val (.int p4), .val (.int p5), .val (.ref b1), .val (.ref bB_4), .val (.int (Int32.ofNat 256)), .val (.ref bB_4), .val (.int (1 : Int32)), .val (.int ((p5 &&& (2147483647 : Int32)) % ((Int32.ofNat 256) + (1 : Int32)))), .val (.int (0 : Int32))] [(.int p4)])) t → Steps p.tables e below (s₁.setTop (entryFrame m #[(.int p1), (.int p2), (.int p3), (.int p4), (.int p5)] maxLocals)) t := fun t k => ac32 t (st33.trans k)
    have ac35 : ∀ t, Steps p.tables e below (T33.setTop (mkF m 206 #[.val (.int p1), .val (.int p2), .val (.int p3), .val (.int p4), .val (.int p5), .val (.ref b1), .val (.ref bB_4), .val (.int (Int32.ofNat 256)), .val (.ref bB_4), .val (.int (1 : Int32)), .val (.int ((p5 &&& (2147483647 : Int32)) % ((Int32.ofNat 256) + (1 : Int32)))), .val (.int (0 : Int32))] [(.int (1 : Int32))])) t → Steps p.tables e below (s₁.setTop (entryFrame m #[(.int p1), (.int p2), (.int p3), (.int p4), (.int p5)] maxLocals)) t := fun t k => ac34 t (by
        show Steps p.tables e below (T33.setTop (mkF m 193 #[.val (.int p1), .val (.int p2), .val (.int p3), .val (.int p4), .val (.int p5), .val (.ref b1), .val (.ref bB_4), .val (.int (Int32.ofNat 256)), .val (.ref bB_4), .val (.int (1 : Int32)), .val (.int ((p5 &&& (2147483647 : Int32)) % ((Int32.ofNat 256) + (1 : Int32)))), .val (.int (0 : Int32))] [(.int p4)])) _
        refine XS.iloadN X33.here hx rfl (hb hby at_193) rfl ?_
        show Steps p.tables e below (T33.setTop (mkF m 194 #[.val (.int p1), .val (.int p2), .val (.int p3), .val (.int p4), .val (.int p5), .val (.ref b1), .val (.ref bB_4), .val (.int (Int32.ofNat 256)), .val (.ref bB_4), .val (.int (1 : Int32)), .val (.int ((p5 &&& (2147483647 : Int32)) % ((Int32.ofNat 256) + (1 : Int32)))), .val (.int (0 : Int32))] [(.int p4), (.int p4)])) _
        refine XS.icmpNo X33.here hx rfl (hb hby at_194) rfl (teq rfl).2 ?_
        show Steps p.tables e below (T33.setTop (mkF m 197 #[.val (.int p1), .val (.int p2), .val (.int p3), .val (.int p4), .val (.int p5), .val (.ref b1), .val (.ref bB_4), .val (.int (Int32.ofNat 256)), .val (.ref bB_4), .val (.int (1 : Int32)), .val (.int ((p5 &&& (2147483647 : Int32)) % ((Int32.ofNat 256) + (1 : Int32)))), .val (.int (0 : Int32))] [])) _
        refine XS.iconst X33.here hx rfl (hb hby at_197) ?_
        show Steps p.tables e below (T33.setTop (mkF m 198 #[.val (.int p1), .val (.int p2), .val (.int p3), .val (.int p4), .val (.int p5), .val (.ref b1), .val (.ref bB_4), .val (.int (Int32.ofNat 256)), .val (.ref bB_4), .val (.int (1 : Int32)), .val (.int ((p5 &&& (2147483647 : Int32)) % ((Int32.ofNat 256) + (1 : Int32)))), .val (.int (0 : Int32))] [(.int (1 : Int32))])) _
        refine XS.goto X33.here hx rfl (pc0 := 198) (pc' := 202) rfl (hb hby at_198) (by decide) (by decide) ?_
        show Steps p.tables e below (T33.setTop (mkF m 202 #[.val (.int p1), .val (.int p2), .val (.int p3), .val (.int p4), .val (.int p5), .val (.ref b1), .val (.ref bB_4), .val (.int (Int32.ofNat 256)), .val (.ref bB_4), .val (.int (1 : Int32)), .val (.int ((p5 &&& (2147483647 : Int32)) % ((Int32.ofNat 256) + (1 : Int32)))), .val (.int (0 : Int32))] [(.int (1 : Int32))])) _
        refine XS.istore X33.here hx rfl (hb hby at_202) rfl (l' := #[.val (.int p1), .val (.int p2), .val (.int p3), .val (.int p4), .val (.int p5), .val (.ref b1), .val (.ref bB_4), .val (.int (Int32.ofNat 256)), .val (.ref bB_4), .val (.int (1 : Int32)), .val (.int ((p5 &&& (2147483647 : Int32)) % ((Int32.ofNat 256) + (1 : Int32)))), .val (.int (0 : Int32))]) rfl ?_
        show Steps p.tables e below (T33.setTop (mkF m 204 #[.val (.int p1), .val (.int p2), .val (.int p3), .val (.int p4), .val (.int p5), .val (.ref b1), .val (.ref bB_4), .val (.int (Int32.ofNat 256)), .val (.ref bB_4), .val (.int (1 : Int32)), .val (.int ((p5 &&& (2147483647 : Int32)) % ((Int32.ofNat 256) + (1 : Int32)))), .val (.int (0 : Int32))] [])) _
        refine XS.iload X33.here hx rfl (hb hby at_204) rfl ?_
        exact k)
    obtain ⟨fs, hr, hrun, hended, hW, hsame⟩ := X33.leave (v := some (.int (1 : Int32))) (fun h => by rw [Bd.returns] at h; cases h) (BodyLoose.notSynchronized Bd)
    refine ⟨_, _, ac35 _ ?_, hrun, hended, _, _, rfl, ?_, ⟨_, rfl⟩, hW, hsame.mono (by decide) (by decide)⟩
    · show Steps p.tables e below (T33.setTop (mkF m 206 #[.val (.int p1), .val (.int p2), .val (.int p3), .val (.int p4), .val (.int p5), .val (.ref b1), .val (.ref bB_4), .val (.int (Int32.ofNat 256)), .val (.ref bB_4), .val (.int (1 : Int32)), .val (.int ((p5 &&& (2147483647 : Int32)) % ((Int32.ofNat 256) + (1 : Int32)))), .val (.int (0 : Int32))] [(.int (1 : Int32))])) _
      exact retN X33 hx (t := .boolean) Bd.returns (by simp) (hb hby at_206) hr
    · show Q0 Z p1 p2 p3 p4 p5 h0 n0 _ T33.heap _
      rw [Qe33]
      exact ⟨rfl, N33⟩
  ·
    obtain ⟨rn, hrn, hrl⟩ := own_room (p := p2)
    have ac36 : ∀ t, Steps p.tables e below (T4.setTop (mkF m 27 #[.val (.int p1), .val (.int p2), .val (.int p3), .val (.int p4), .val (.int p5), .val (.ref b1), .val (.int (p2 &&& (65535 : Int32))), .unset, .unset, .unset, .unset, .unset] [(.int (p2 &&& (65535 : Int32))), (.int p4), (.int p4), (.ref b1)])) t → Steps p.tables e below (s₁.setTop (entryFrame m #[(.int p1), (.int p2), (.int p3), (.int p4), (.int p5)] maxLocals)) t := fun t k => ac7 t (by
        show Steps p.tables e below (T4.setTop (mkF m 12 #[.val (.int p1), .val (.int p2), .val (.int p3), .val (.int p4), .val (.int p5), .val (.ref b1), .unset, .unset, .unset, .unset, .unset, .unset] [(.int (p1 &&& (1 : Int32)))])) _
        refine XS.ifNo X4.here hx rfl (hb hby at_12) rfl ((if0 _ _).trans (feq hflag).1) ?_
        show Steps p.tables e below (T4.setTop (mkF m 15 #[.val (.int p1), .val (.int p2), .val (.int p3), .val (.int p4), .val (.int p5), .val (.ref b1), .unset, .unset, .unset, .unset, .unset, .unset] [])) _
        refine XS.iloadN X4.here hx rfl (hb hby at_15) rfl ?_
        show Steps p.tables e below (T4.setTop (mkF m 16 #[.val (.int p1), .val (.int p2), .val (.int p3), .val (.int p4), .val (.int p5), .val (.ref b1), .unset, .unset, .unset, .unset, .unset, .unset] [(.int p2)])) _
        refine X4.ldcInt hx hown (mvT hZ (hw _ (List.mem_of_getElem? (i := 57) rfl))) (g := (mkF m 16 #[.val (.int p1), .val (.int p2), .val (.int p3), .val (.int p4), .val (.int p5), .val (.ref b1), .unset, .unset, .unset, .unset, .unset, .unset] [(.int p2)])) rfl (hb hby at_16) _ ?_
        show Steps p.tables e below (T4.setTop (mkF m 18 #[.val (.int p1), .val (.int p2), .val (.int p3), .val (.int p4), .val (.int p5), .val (.ref b1), .unset, .unset, .unset, .unset, .unset, .unset] [(.int (65535 : Int32)), (.int p2)])) _
        refine XS.iand X4.here hx rfl (hb hby at_18) rfl ?_
        show Steps p.tables e below (T4.setTop (mkF m 19 #[.val (.int p1), .val (.int p2), .val (.int p3), .val (.int p4), .val (.int p5), .val (.ref b1), .unset, .unset, .unset, .unset, .unset, .unset] [(.int (p2 &&& (65535 : Int32)))])) _
        refine XS.istore X4.here hx rfl (hb hby at_19) rfl (l' := #[.val (.int p1), .val (.int p2), .val (.int p3), .val (.int p4), .val (.int p5), .val (.ref b1), .val (.int (p2 &&& (65535 : Int32))), .unset, .unset, .unset, .unset, .unset]) rfl ?_
        show Steps p.tables e below (T4.setTop (mkF m 21 #[.val (.int p1), .val (.int p2), .val (.int p3), .val (.int p4), .val (.int p5), .val (.ref b1), .val (.int (p2 &&& (65535 : Int32))), .unset, .unset, .unset, .unset, .unset] [])) _
        refine XS.aload X4.here hx rfl (hb hby at_21) rfl rfl ?_
        show Steps p.tables e below (T4.setTop (mkF m 23 #[.val (.int p1), .val (.int p2), .val (.int p3), .val (.int p4), .val (.int p5), .val (.ref b1), .val (.int (p2 &&& (65535 : Int32))), .unset, .unset, .unset, .unset, .unset] [(.ref b1)])) _
        refine XS.iloadN X4.here hx rfl (hb hby at_23) rfl ?_
        show Steps p.tables e below (T4.setTop (mkF m 24 #[.val (.int p1), .val (.int p2), .val (.int p3), .val (.int p4), .val (.int p5), .val (.ref b1), .val (.int (p2 &&& (65535 : Int32))), .unset, .unset, .unset, .unset, .unset] [(.int p4), (.ref b1)])) _
        refine XS.iloadN X4.here hx rfl (hb hby at_24) rfl ?_
        show Steps p.tables e below (T4.setTop (mkF m 25 #[.val (.int p1), .val (.int p2), .val (.int p3), .val (.int p4), .val (.int p5), .val (.ref b1), .val (.int (p2 &&& (65535 : Int32))), .unset, .unset, .unset, .unset, .unset] [(.int p4), (.int p4), (.ref b1)])) _
        refine XS.iload X4.here hx rfl (hb hby at_25) rfl ?_
        exact k)
    by_cases hroom : 256 < rn
    ·
      obtain ⟨cq37, kq37, q37a, q37b, q37c⟩ := isOf hZ rfl HB4.1
      obtain ⟨_, _, ⟨T37, L37, k37, n37⟩, -, X37, ⟨Lc37, hQ37, l37, y37, z37⟩, st37⟩ := X4.virtualBack hx (y := (⟨"com/example/termwright/termwright/TokenList", "add", "(III)I"⟩ : MethodName)) (z := (⟨"com/example/termwright/termwright/TokenList", "add", "(III)I"⟩ : MethodName)) hown (mvT hZ (hw _ (List.mem_of_getElem? (i := 43) rfl))) (mvT hZ (hw _ (List.mem_of_getElem? (i := 44) rfl))) (notFace_of_selects (args := #[]) (mvT hZ (hw _ (List.mem_of_getElem? (i := 46) rfl)))) (mvT hZ (hw _ (List.mem_of_getElem? (i := 46) rfl))) (mvT hZ (hw _ (List.mem_of_getElem? (i := 45) rfl))) (by decide) (backOf (W := 0) (rm6g l Z a0 hw [] b1 p4 p4 (p2 &&& (65535 : Int32)) _ _ _ _ _ _ _ _ _ _ _ _ rn T4.heap n0 Z4 HB4 g_b1 hrn hroom hrl) hZ (hw _ (List.mem_of_getElem? (i := 47) rfl)) (hw _ (List.mem_of_getElem? (i := 2) rfl)) (by decide) (by decide)) q37a q37c (g := (mkF m 27 #[.val (.int p1), .val (.int p2), .val (.int p3), .val (.int p4), .val (.int p5), .val (.ref b1), .val (.int (p2 &&& (65535 : Int32))), .unset, .unset, .unset, .unset, .unset] [(.int (p2 &&& (65535 : Int32))), (.int p4), (.int p4), (.ref b1)])) rfl (by rw [hml]; rfl) (Steps.refl _) (argsL := [(.int p4), (.int p4), (.int (p2 &&& (65535 : Int32)))]) (rest := []) (lenOf pd_3 rfl) rfl (by show 2 * 0 + _ ≤ _; exact Nat.le_of_eq rfl) (hb hby at_27) (fun _ _ => ⟨rfl, rfl, (by decide : 7 + 1 ≤ _), (by decide : 344 + 65535 ≤ _)⟩)
      dsimp only [Pt.U, Pt.locs, Pt.cells, Pt.slots] at X37 l37 y37 z37 st37 hQ37
      subst l37 y37 z37
      obtain ⟨f1_37, f2_37, f3_37, f4_37, f5_37, bB_37, nB_37, fB_37, rfl, N37q, K37q, hf37, h137, h237, sz37, HB37⟩ := hQ37
      have N37 := Fr.app N4 N37q
      have Ef38 := HB4.1.keep K37q
      have Z37 : n0 ≤ T37.heap.size := Nat.le_trans Z4 K37q.1
      have ac39 : ∀ t, Steps p.tables e below (T37.setTop (mkF m 30 #[.val (.int p1), .val (.int p2), .val (.int p3), .val (.int p4), .val (.int p5), .val (.ref b1), .val (.int (p2 &&& (65535 : Int32))), .unset, .unset, .unset, .unset, .unset] [(.int (0 : Int32))])) t → Steps p.tables e below (s₁.setTop (entryFrame m #[(.int p1), (.int p2), (.int p3), (.int p4), (.int p5)] maxLocals)) t := fun t k => ac36 t (st37.trans k)
      have hq1 := own_p1 hrn hrl
      have ac40 : ∀ t, Steps p.tables e below (T37.setTop (mkF m 48 #[.val (.int p1), .val (.int p2), .val (.int p3), .val (.int p4), .val (.int p5), .val (.ref b1), .val (.int (p2 &&& (65535 : Int32))), .val (.int ((p3 &&& (2147483647 : Int32)) % ((p2 &&& (65535 : Int32)) + (1 : Int32)))), .unset, .unset, .unset, .unset] [(.int ((p3 &&& (2147483647 : Int32)) % ((p2 &&& (65535 : Int32)) + (1 : Int32)))), (.int ((p3 &&& (2147483647 : Int32)) % ((p2 &&& (65535 : Int32)) + (1 : Int32)))), (.ref b1)])) t → Steps p.tables e below (s₁.setTop (entryFrame m #[(.int p1), (.int p2), (.int p3), (.int p4), (.int p5)] maxLocals)) t := fun t k => ac39 t (by
          show Steps p.tables e below (T37.setTop (mkF m 30 #[.val (.int p1), .val (.int p2), .val (.int p3), .val (.int p4), .val (.int p5), .val (.ref b1), .val (.int (p2 &&& (65535 : Int32))), .unset, .unset, .unset, .unset, .unset] [(.int (0 : Int32))])) _
          refine XS.pop X37.here hx rfl (hb hby at_30) rfl rfl ?_
          show Steps p.tables e below (T37.setTop (mkF m 31 #[.val (.int p1), .val (.int p2), .val (.int p3), .val (.int p4), .val (.int p5), .val (.ref b1), .val (.int (p2 &&& (65535 : Int32))), .unset, .unset, .unset, .unset, .unset] [])) _
          refine XS.iloadN X37.here hx rfl (hb hby at_31) rfl ?_
          show Steps p.tables e below (T37.setTop (mkF m 32 #[.val (.int p1), .val (.int p2), .val (.int p3), .val (.int p4), .val (.int p5), .val (.ref b1), .val (.int (p2 &&& (65535 : Int32))), .unset, .unset, .unset, .unset, .unset] [(.int p3)])) _
          refine X37.ldcInt hx hown (mvT hZ (hw _ (List.mem_of_getElem? (i := 42) rfl))) (g := (mkF m 32 #[.val (.int p1), .val (.int p2), .val (.int p3), .val (.int p4), .val (.int p5), .val (.ref b1), .val (.int (p2 &&& (65535 : Int32))), .unset, .unset, .unset, .unset, .unset] [(.int p3)])) rfl (hb hby at_32) _ ?_
          show Steps p.tables e below (T37.setTop (mkF m 34 #[.val (.int p1), .val (.int p2), .val (.int p3), .val (.int p4), .val (.int p5), .val (.ref b1), .val (.int (p2 &&& (65535 : Int32))), .unset, .unset, .unset, .unset, .unset] [(.int (2147483647 : Int32)), (.int p3)])) _
          refine XS.iand X37.here hx rfl (hb hby at_34) rfl ?_
          show Steps p.tables e below (T37.setTop (mkF m 35 #[.val (.int p1), .val (.int p2), .val (.int p3), .val (.int p4), .val (.int p5), .val (.ref b1), .val (.int (p2 &&& (65535 : Int32))), .unset, .unset, .unset, .unset, .unset] [(.int (p3 &&& (2147483647 : Int32)))])) _
          refine XS.iload X37.here hx rfl (hb hby at_35) rfl ?_
          show Steps p.tables e below (T37.setTop (mkF m 37 #[.val (.int p1), .val (.int p2), .val (.int p3), .val (.int p4), .val (.int p5), .val (.ref b1), .val (.int (p2 &&& (65535 : Int32))), .unset, .unset, .unset, .unset, .unset] [(.int (p2 &&& (65535 : Int32))), (.int (p3 &&& (2147483647 : Int32)))])) _
          refine XS.iconst X37.here hx rfl (hb hby at_37) ?_
          show Steps p.tables e below (T37.setTop (mkF m 38 #[.val (.int p1), .val (.int p2), .val (.int p3), .val (.int p4), .val (.int p5), .val (.ref b1), .val (.int (p2 &&& (65535 : Int32))), .unset, .unset, .unset, .unset, .unset] [(.int (1 : Int32)), (.int (p2 &&& (65535 : Int32))), (.int (p3 &&& (2147483647 : Int32)))])) _
          refine XS.iadd X37.here hx rfl (hb hby at_38) rfl ?_
          show Steps p.tables e below (T37.setTop (mkF m 39 #[.val (.int p1), .val (.int p2), .val (.int p3), .val (.int p4), .val (.int p5), .val (.ref b1), .val (.int (p2 &&& (65535 : Int32))), .unset, .unset, .unset, .unset, .unset] [(.int ((p2 &&& (65535 : Int32)) + (1 : Int32))), (.int (p3 &&& (2147483647 : Int32)))])) _
          refine iremM X37 hx rfl (hb hby at_39) rfl (own_nz hq1) ?_
          show Steps p.tables e below (T37.setTop (mkF m 40 #[.val (.int p1), .val (.int p2), .val (.int p3), .val (.int p4), .val (.int p5), .val (.ref b1), .val (.int (p2 &&& (65535 : Int32))), .unset, .unset, .unset, .unset, .unset] [(.int ((p3 &&& (2147483647 : Int32)) % ((p2 &&& (65535 : Int32)) + (1 : Int32))))])) _
          refine XS.istore X37.here hx rfl (hb hby at_40) rfl (l' := #[.val (.int p1), .val (.int p2), .val (.int p3), .val (.int p4), .val (.int p5), .val (.ref b1), .val (.int (p2 &&& (65535 : Int32))), .val (.int ((p3 &&& (2147483647 : Int32)) % ((p2 &&& (65535 : Int32)) + (1 : Int32)))), .unset, .unset, .unset, .unset]) rfl ?_
          show Steps p.tables e below (T37.setTop (mkF m 42 #[.val (.int p1), .val (.int p2), .val (.int p3), .val (.int p4), .val (.int p5), .val (.ref b1), .val (.int (p2 &&& (65535 : Int32))), .val (.int ((p3 &&& (2147483647 : Int32)) % ((p2 &&& (65535 : Int32)) + (1 : Int32)))), .unset, .unset, .unset, .unset] [])) _
          refine XS.aload X37.here hx rfl (hb hby at_42) rfl rfl ?_
          show Steps p.tables e below (T37.setTop (mkF m 44 #[.val (.int p1), .val (.int p2), .val (.int p3), .val (.int p4), .val (.int p5), .val (.ref b1), .val (.int (p2 &&& (65535 : Int32))), .val (.int ((p3 &&& (2147483647 : Int32)) % ((p2 &&& (65535 : Int32)) + (1 : Int32)))), .unset, .unset, .unset, .unset] [(.ref b1)])) _
          refine XS.iload X37.here hx rfl (hb hby at_44) rfl ?_
          show Steps p.tables e below (T37.setTop (mkF m 46 #[.val (.int p1), .val (.int p2), .val (.int p3), .val (.int p4), .val (.int p5), .val (.ref b1), .val (.int (p2 &&& (65535 : Int32))), .val (.int ((p3 &&& (2147483647 : Int32)) % ((p2 &&& (65535 : Int32)) + (1 : Int32)))), .unset, .unset, .unset, .unset] [(.int ((p3 &&& (2147483647 : Int32)) % ((p2 &&& (65535 : Int32)) + (1 : Int32)))), (.ref b1)])) _
          refine XS.iload X37.here hx rfl (hb hby at_46) rfl ?_
          exact k)
      obtain ⟨cq41, kq41, q41a, q41b, q41c⟩ := isOf hZ rfl HB37.1
      obtain ⟨_, _, ⟨T41, L41, k41, n41⟩, -, X41, ⟨Lc41, hQ41, l41, y41, z41⟩, st41⟩ := X37.virtualBack hx (y := (⟨"com/example/termwright/termwright/TokenList", "endTerm", "(II)V"⟩ : MethodName)) (z := (⟨"com/example/termwright/termwright/TokenList", "endTerm", "(II)V"⟩ : MethodName)) hown (mvT hZ (hw _ (List.mem_of_getElem? (i := 58) rfl))) (mvT hZ (hw _ (List.mem_of_getElem? (i := 59) rfl))) (notFace_of_selects (args := #[]) (mvT hZ (hw _ (List.mem_of_getElem? (i := 61) rfl)))) (mvT hZ (hw _ (List.mem_of_getElem? (i := 61) rfl))) (mvT hZ (hw _ (List.mem_of_getElem? (i := 60) rfl))) (by decide) (backOf (W := 0) (rm9 l Z a0 hw [] b1 ((p3 &&& (2147483647 : Int32)) % ((p2 &&& (65535 : Int32)) + (1 : Int32))) ((p3 &&& (2147483647 : Int32)) % ((p2 &&& (65535 : Int32)) + (1 : Int32))) _ _ _ _ _ _ _ _ _ _ _ _ _  T37.heap n0 Z37 HB37 g_b1) hZ (hw _ (List.mem_of_getElem? (i := 62) rfl)) (hw _ (List.mem_of_getElem? (i := 2) rfl)) (by decide) (by decide)) q41a q41c (g := (mkF m 48 #[.val (.int p1), .val (.int p2), .val (.int p3), .val (.int p4), .val (.int p5), .val (.ref b1), .val (.int (p2 &&& (65535 : Int32))), .val (.int ((p3 &&& (2147483647 : Int32)) % ((p2 &&& (65535 : Int32)) + (1 : Int32)))), .unset, .unset, .unset, .unset] [(.int ((p3 &&& (2147483647 : Int32)) % ((p2 &&& (65535 : Int32)) + (1 : Int32)))), (.int ((p3 &&& (2147483647 : Int32)) % ((p2 &&& (65535 : Int32)) + (1 : Int32)))), (.ref b1)])) rfl (by rw [hml]; rfl) (Steps.refl _) (argsL := [(.int ((p3 &&& (2147483647 : Int32)) % ((p2 &&& (65535 : Int32)) + (1 : Int32)))), (.int ((p3 &&& (2147483647 : Int32)) % ((p2 &&& (65535 : Int32)) + (1 : Int32))))]) (rest := []) (lenOf pd_6 rfl) rfl (by show 2 * 0 + _ ≤ _; exact Nat.le_of_eq rfl) (hb hby at_48) (fun _ _ => ⟨rfl, rfl, (by decide : 8 + 0 ≤ _), (by decide : 65879 + 0 ≤ _)⟩)
      dsimp only [Pt.U, Pt.locs, Pt.cells, Pt.slots] at X41 l41 y41 z41 st41 hQ41
      subst l41 y41 z41
      obtain ⟨f4_41, f5_41, rfl, N41q, K41q, HB41⟩ := hQ41
      have N41 := Fr.app N37 N41q
      have Ef42 := HB37.1.keep K41q
      have Z41 : n0 ≤ T41.heap.size := Nat.le_trans Z37 K41q.1
      have ac43 : ∀ t, Steps p.tables e below (T41.setTop (mkF m 51 #[.val (.int p1), .val (.int p2), .val (.int p3), .val (.int p4), .val (.int p5), .val (.ref b1), .val (.int (p2 &&& (65535 : Int32))), .val (.int ((p3 &&& (2147483647 : Int32)) % ((p2 &&& (65535 : Int32)) + (1 : Int32)))), .unset, .unset, .unset, .unset] [])) t → Steps p.tables e below (s₁.setTop (entryFrame m #[(.int p1), (.int p2), (.int p3), (.int p4), (.int p5)] maxLocals)) t := fun t k => ac40 t (st41.trans k)
      by_cases hbig : 16384 < nB_37
      ·
        have ac44 : ∀ t, Steps p.tables e below (T41.setTop (mkF m 53 #[.val (.int p1), .val (.int p2), .val (.int p3), .val (.int p4), .val (.int p5), .val (.ref b1), .val (.int (p2 &&& (65535 : Int32))), .val (.int ((p3 &&& (2147483647 : Int32)) % ((p2 &&& (65535 : Int32)) + (1 : Int32)))), .unset, .unset, .unset, .unset] [(.ref b1)])) t → Steps p.tables e below (s₁.setTop (entryFrame m #[(.int p1), (.int p2), (.int p3), (.int p4), (.int p5)] maxLocals)) t := fun t k => ac43 t (by
            show Steps p.tables e below (T41.setTop (mkF m 51 #[.val (.int p1), .val (.int p2), .val (.int p3), .val (.int p4), .val (.int p5), .val (.ref b1), .val (.int (p2 &&& (65535 : Int32))), .val (.int ((p3 &&& (2147483647 : Int32)) % ((p2 &&& (65535 : Int32)) + (1 : Int32)))), .unset, .unset, .unset, .unset] [])) _
            refine XS.aload X41.here hx rfl (hb hby at_51) rfl rfl ?_
            exact k)
        obtain ⟨cq45, kq45, q45a, q45b, q45c⟩ := isOf hZ rfl HB41.1
        obtain ⟨_, _, ⟨T45, L45, k45, n45⟩, -, X45, ⟨Lc45, hQ45, l45, y45, z45⟩, st45⟩ := X41.virtualBack hx (y := (⟨"com/example/termwright/termwright/TokenList", "termBytes", "()[B"⟩ : MethodName)) (z := (⟨"com/example/termwright/termwright/TokenList", "termBytes", "()[B"⟩ : MethodName)) hown (mvT hZ (hw _ (List.mem_of_getElem? (i := 23) rfl))) (mvT hZ (hw _ (List.mem_of_getElem? (i := 24) rfl))) (notFace_of_selects (args := #[]) (mvT hZ (hw _ (List.mem_of_getElem? (i := 26) rfl)))) (mvT hZ (hw _ (List.mem_of_getElem? (i := 26) rfl))) (mvT hZ (hw _ (List.mem_of_getElem? (i := 25) rfl))) (by decide) (backOf (W := 0) (rm3 l Z a0 hw [] b1 _ _ _ _ _ _ _ _ _ _ _ _ _ _ _  T41.heap n0 Z41 HB41) hZ (hw _ (List.mem_of_getElem? (i := 27) rfl)) (hw _ (List.mem_of_getElem? (i := 2) rfl)) (by decide) (by decide)) q45a q45c (g := (mkF m 53 #[.val (.int p1), .val (.int p2), .val (.int p3), .val (.int p4), .val (.int p5), .val (.ref b1), .val (.int (p2 &&& (65535 : Int32))), .val (.int ((p3 &&& (2147483647 : Int32)) % ((p2 &&& (65535 : Int32)) + (1 : Int32)))), .unset, .unset, .unset, .unset] [(.ref b1)])) rfl (by rw [hml]; rfl) (Steps.refl _) (argsL := []) (rest := []) (lenOf pd_1 rfl) rfl (by show 2 * 0 + _ ≤ _; exact Nat.le_of_eq rfl) (hb hby at_53) (fun _ _ => ⟨rfl, rfl, (by decide : 8 + 0 ≤ _), (by decide : 65879 + 0 ≤ _)⟩)
        dsimp only [Pt.U, Pt.locs, Pt.cells, Pt.slots] at X45 l45 y45 z45 st45 hQ45
        subst l45 y45 z45
        obtain ⟨rfl, N45q, Qe45⟩ := hQ45
        have N45 := Fr.app N41 N45q
        have ac46 : ∀ t, Steps p.tables e below (T45.setTop (mkF m 56 #[.val (.int p1), .val (.int p2), .val (.int p3), .val (.int p4), .val (.int p5), .val (.ref b1), .val (.int (p2 &&& (65535 : Int32))), .val (.int ((p3 &&& (2147483647 : Int32)) % ((p2 &&& (65535 : Int32)) + (1 : Int32)))), .unset, .unset, .unset, .unset] [(.ref bB_37)])) t → Steps p.tables e below (s₁.setTop (entryFrame m #[(.int p1), (.int p2), (.int p3), (.int p4), (.int p5)] maxLocals)) t := fun t k => ac44 t (st45.trans k)
        obtain ⟨-, -, -, -, -, -, -, -, -, -, -, -, -, -, Vb0, -⟩ := id HB41
        have ac47 : ∀ t, Steps p.tables e below (T45.setTop (mkF m 60 #[.val (.int p1), .val (.int p2), .val (.int p3), .val (.int p4), .val (.int p5), .val (.ref b1), .val (.ref bB_37), .val (.int ((p3 &&& (2147483647 : Int32)) % ((p2 &&& (65535 : Int32)) + (1 : Int32)))), .unset, .unset, .unset, .unset] [(.ref bB_37)])) t → Steps p.tables e below (s₁.setTop (entryFrame m #[(.int p1), (.int p2), (.int p3), (.int p4), (.int p5)] maxLocals)) t := fun t k => ac46 t (by
            show Steps p.tables e below (T45.setTop (mkF m 56 #[.val (.int p1), .val (.int p2), .val (.int p3), .val (.int p4), .val (.int p5), .val (.ref b1), .val (.int (p2 &&& (65535 : Int32))), .val (.int ((p3 &&& (2147483647 : Int32)) % ((p2 &&& (65535 : Int32)) + (1 : Int32)))), .unset, .unset, .unset, .unset] [(.ref bB_37)])) _
            refine XS.astore X45.here hx rfl (hb hby at_56) rfl rfl (l' := #[.val (.int p1), .val (.int p2), .val (.int p3), .val (.int p4), .val (.int p5), .val (.ref b1), .val (.ref bB_37), .val (.int ((p3 &&& (2147483647 : Int32)) % ((p2 &&& (65535 : Int32)) + (1 : Int32)))), .unset, .unset, .unset, .unset]) rfl ?_
            show Steps p.tables e below (T45.setTop (mkF m 58 #[.val (.int p1), .val (.int p2), .val (.int p3), .val (.int p4), .val (.int p5), .val (.ref b1), .val (.ref bB_37), .val (.int ((p3 &&& (2147483647 : Int32)) % ((p2 &&& (65535 : Int32)) + (1 : Int32)))), .unset, .unset, .unset, .unset] [])) _
            refine XS.aload X45.here hx rfl (hb hby at_58) rfl rfl ?_
            exact k)
        obtain ⟨cl48, Ac48, hl48, hb48⟩ := Vb0.len
        have hlen := own_ofNat hb48
        have z14 : (16384 : Int32).toInt = 16384 := rfl
        have ac49 : ∀ t, Steps p.tables e below (T45.setTop (mkF m 65 #[.val (.int p1), .val (.int p2), .val (.int p3), .val (.int p4), .val (.int p5), .val (.ref b1), .val (.ref bB_37), .val (.int (Int32.ofNat nB_37)), .unset, .unset, .unset, .unset] [(.ref b1)])) t → Steps p.tables e below (s₁.setTop (entryFrame m #[(.int p1), (.int p2), (.int p3), (.int p4), (.int p5)] maxLocals)) t := fun t k => ac47 t (by
            show Steps p.tables e below (T45.setTop (mkF m 60 #[.val (.int p1), .val (.int p2), .val (.int p3), .val (.int p4), .val (.int p5), .val (.ref b1), .val (.ref bB_37), .val (.int ((p3 &&& (2147483647 : Int32)) % ((p2 &&& (65535 : Int32)) + (1 : Int32)))), .unset, .unset, .unset, .unset] [(.ref bB_37)])) _
            refine X45.arraylength hx (by rw [Qe45]; exact Ac48.1) (State.isArrayOf_alike hZ.alike Ac48.2.1) (g := (mkF m 60 #[.val (.int p1), .val (.int p2), .val (.int p3), .val (.int p4), .val (.int p5), .val (.ref b1), .val (.ref bB_37), .val (.int ((p3 &&& (2147483647 : Int32)) % ((p2 &&& (65535 : Int32)) + (1 : Int32)))), .unset, .unset, .unset, .unset] [(.ref bB_37)])) rfl rfl (hb hby at_60) _ ?_
            rw [hl48]
            show Steps p.tables e below (T45.setTop (mkF m 61 #[.val (.int p1), .val (.int p2), .val (.int p3), .val (.int p4), .val (.int p5), .val (.ref b1), .val (.ref bB_37), .val (.int ((p3 &&& (2147483647 : Int32)) % ((p2 &&& (65535 : Int32)) + (1 : Int32)))), .unset, .unset, .unset, .unset] [(.int (Int32.ofNat nB_37))])) _
            refine XS.istore X45.here hx rfl (hb hby at_61) rfl (l' := #[.val (.int p1), .val (.int p2), .val (.int p3), .val (.int p4), .val (.int p5), .val (.ref b1), .val (.ref bB_37), .val (.int (Int32.ofNat nB_37)), .unset, .unset, .unset, .unset]) rfl ?_
            show Steps p.tables e below (T45.setTop (mkF m 63 #[.val (.int p1), .val (.int p2), .val (.int p3), .val (.int p4), .val (.int p5), .val (.ref b1), .val (.ref bB_37), .val (.int (Int32.ofNat nB_37)), .unset, .unset, .unset, .unset] [])) _
            refine XS.aload X45.here hx rfl (hb hby at_63) rfl rfl ?_
            exact k)
        obtain ⟨cq50, kq50, q50a, q50b, q50c⟩ := isOf hZ Qe45 HB41.1
        obtain ⟨_, _, ⟨T50, L50, k50, n50⟩, -, X50, ⟨Lc50, hQ50, l50, y50, z50⟩, st50⟩ := X45.virtualBack hx (y := (⟨"com/example/termwright/termwright/TokenList", "clear", "()V"⟩ : MethodName)) (z := (⟨"com/example/termwright/termwright/TokenList", "clear", "()V"⟩ : MethodName)) hown (mvT hZ (hw _ (List.mem_of_getElem? (i := 28) rfl))) (mvT hZ (hw _ (List.mem_of_getElem? (i := 29) rfl))) (notFace_of_selects (args := #[]) (mvT hZ (hw _ (List.mem_of_getElem? (i := 31) rfl)))) (mvT hZ (hw _ (List.mem_of_getElem? (i := 31) rfl))) (mvT hZ (hw _ (List.mem_of_getElem? (i := 30) rfl))) (by decide) (backOf (W := 0) (rm4g l Z a0 hw [] b1 _ _ _ _ _ _ _ _ _ _ _ _ _ _ _  T41.heap n0 Z41 HB41 g_b1 hbig) hZ (hw _ (List.mem_of_getElem? (i := 32) rfl)) (hw _ (List.mem_of_getElem? (i := 2) rfl)) (by decide) (by decide)) q50a q50c (g := (mkF m 65 #[.val (.int p1), .val (.int p2), .val (.int p3), .val (.int p4), .val (.int p5), .val (.ref b1), .val (.ref bB_37), .val (.int (Int32.ofNat nB_37)), .unset, .unset, .unset, .unset] [(.ref b1)])) rfl (by rw [hml]; rfl) (Steps.refl _) (argsL := []) (rest := []) (lenOf pd_0 rfl) rfl (by show 2 * 0 + _ ≤ _; exact Nat.le_of_eq rfl) (hb hby at_65) (fun _ _ => ⟨rfl, Qe45, (by decide : 8 + 1 ≤ _), (by decide : 65879 + 16384 ≤ _)⟩)
        dsimp only [Pt.U, Pt.locs, Pt.cells, Pt.slots] at X50 l50 y50 z50 st50 hQ50
        subst l50 y50 z50
        obtain ⟨bB_50, fB_50, rfl, N50q, K50q, sz50, HB50⟩ := hQ50
        have N50 := Fr.app N45 N50q
        have Ef51 := HB41.1.keep K50q
        have Z50 : n0 ≤ T50.heap.size := Nat.le_trans Z41 K50q.1
        have ac52 : ∀ t, Steps p.tables e below (T50.setTop (mkF m 68 #[.val (.int p1), .val (.int p2), .val (.int p3), .val (.int p4), .val (.int p5), .val (.ref b1), .val (.ref bB_37), .val (.int (Int32.ofNat nB_37)), .unset, .unset, .unset, .unset] [])) t → Steps p.tables e below (s₁.setTop (entryFrame m #[(.int p1), (.int p2), (.int p3), (.int p4), (.int p5)] maxLocals)) t := fun t k => ac49 t (st50.trans k)
        have hle16 : (16384 : Nat) ≤ 65535 := by decide
        have ac53 : ∀ t, Steps p.tables e below (T50.setTop (mkF m 70 #[.val (.int p1), .val (.int p2), .val (.int p3), .val (.int p4), .val (.int p5), .val (.ref b1), .val (.ref bB_37), .val (.int (Int32.ofNat nB_37)), .unset, .unset, .unset, .unset] [(.ref b1)])) t → Steps p.tables e below (s₁.setTop (entryFrame m #[(.int p1), (.int p2), (.int p3), (.int p4), (.int p5)] maxLocals)) t := fun t k => ac52 t (by
            show Steps p.tables e below (T50.setTop (mkF m 68 #[.val (.int p1), .val (.int p2), .val (.int p3), .val (.int p4), .val (.int p5), .val (.ref b1), .val (.ref bB_37), .val (.int (Int32.ofNat nB_37)), .unset, .unset, .unset, .unset] [])) _
            refine XS.aload X50.here hx rfl (hb hby at_68) rfl rfl ?_
            exact k)
        obtain ⟨cq54, kq54, q54a, q54b, q54c⟩ := isOf hZ rfl HB50.1
        obtain ⟨_, _, ⟨T54, L54, k54, n54⟩, -, X54, ⟨Lc54, hQ54, l54, y54, z54⟩, st54⟩ := X50.virtualBack hx (y := (⟨"com/example/termwright/termwright/TokenList", "termBytes", "()[B"⟩ : MethodName)) (z := (⟨"com/example/termwright/termwright/TokenList", "termBytes", "()[B"⟩ : MethodName)) hown (mvT hZ (hw _ (List.mem_of_getElem? (i := 23) rfl))) (mvT hZ (hw _ (List.mem_of_getElem? (i := 24) rfl))) (notFace_of_selects (args := #[]) (mvT hZ (hw _ (List.mem_of_getElem? (i := 26) rfl)))) (mvT hZ (hw _ (List.mem_of_getElem? (i := 26) rfl))) (mvT hZ (hw _ (List.mem_of_getElem? (i := 25) rfl))) (by decide) (backOf (W := 0) (rm3 l Z a0 hw [] b1 _ _ _ _ _ _ _ _ _ _ _ _ _ _ _  T50.heap n0 Z50 HB50) hZ (hw _ (List.mem_of_getElem? (i := 27) rfl)) (hw _ (List.mem_of_getElem? (i := 2) rfl)) (by decide) (by decide)) q54a q54c (g := (mkF m 70 #[.val (.int p1), .val (.int p2), .val (.int p3), .val (.int p4), .val (.int p5), .val (.ref b1), .val (.ref bB_37), .val (.int (Int32.ofNat nB_37)), .unset, .unset, .unset, .unset] [(.ref b1)])) rfl (by rw [hml]; rfl) (Steps.refl _) (argsL := []) (rest := []) (lenOf pd_1 rfl) rfl (by show 2 * 0 + _ ≤ _; exact Nat.le_of_eq rfl) (hb hby at_70) (fun _ _ => ⟨rfl, rfl, (by decide : 9 + 0 ≤ _), (by decide : 82263 + 0 ≤ _)⟩)
        dsimp only [Pt.U, Pt.locs, Pt.cells, Pt.slots] at X54 l54 y54 z54 st54 hQ54
        subst l54 y54 z54
        obtain ⟨rfl, N54q, Qe54⟩ := hQ54
        have N54 := Fr.app N50 N54q
        have ac55 : ∀ t, Steps p.tables e below (T54.setTop (mkF m 73 #[.val (.int p1), .val (.int p2), .val (.int p3), .val (.int p4), .val (.int p5), .val (.ref b1), .val (.ref bB_37), .val (.int (Int32.ofNat nB_37)), .unset, .unset, .unset, .unset] [(.ref bB_50)])) t → Steps p.tables e below (s₁.setTop (entryFrame m #[(.int p1), (.int p2), (.int p3), (.int p4), (.int p5)] maxLocals)) t := fun t k => ac53 t (st54.trans k)
        have ac56 : ∀ t, Steps p.tables e below (T54.setTop (mkF m 77 #[.val (.int p1), .val (.int p2), .val (.int p3), .val (.int p4), .val (.int p5), .val (.ref b1), .val (.ref bB_37), .val (.int (Int32.ofNat nB_37)), .val (.ref bB_50), .unset, .unset, .unset] [(.ref b1)])) t → Steps p.tables e below (s₁.setTop (entryFrame m #[(.int p1), (.int p2), (.int p3), (.int p4), (.int p5)] maxLocals)) t := fun t k => ac55 t (by
            show Steps p.tables e below (T54.setTop (mkF m 73 #[.val (.int p1), .val (.int p2), .val (.int p3), .val (.int p4), .val (.int p5), .val (.ref b1), .val (.ref bB_37), .val (.int (Int32.ofNat nB_37)), .unset, .unset, .unset, .unset] [(.ref bB_50)])) _
            refine XS.astore X54.here hx rfl (hb hby at_73) rfl rfl (l' := #[.val (.int p1), .val (.int p2), .val (.int p3), .val (.int p4), .val (.int p5), .val (.ref b1), .val (.ref bB_37), .val (.int (Int32.ofNat nB_37)), .val (.ref bB_50), .unset, .unset, .unset]) rfl ?_
            show Steps p.tables e below (T54.setTop (mkF m 75 #[.val (.int p1), .val (.int p2), .val (.int p3), .val (.int p4), .val (.int p5), .val (.ref b1), .val (.ref bB_37), .val (.int (Int32.ofNat nB_37)), .val (.ref bB_50), .unset, .unset, .unset] [])) _
            refine XS.aload X54.here hx rfl (hb hby at_75) rfl rfl ?_
            exact k)
        obtain ⟨cq57, kq57, q57a, q57b, q57c⟩ := isOf hZ Qe54 HB50.1
        obtain ⟨_, _, ⟨T57, L57, k57, n57⟩, -, X57, ⟨Lc57, hQ57, l57, y57, z57⟩, st57⟩ := X54.virtualBack hx (y := (⟨"com/example/termwright/termwright/TokenList", "size", "()I"⟩ : MethodName)) (z := (⟨"com/example/termwright/termwright/TokenList", "size", "()I"⟩ : MethodName)) hown (mvT hZ (hw _ (List.mem_of_getElem? (i := 37) rfl))) (mvT hZ (hw _ (List.mem_of_getElem? (i := 38) rfl))) (notFace_of_selects (args := #[]) (mvT hZ (hw _ (List.mem_of_getElem? (i := 40) rfl)))) (mvT hZ (hw _ (List.mem_of_getElem? (i := 40) rfl))) (mvT hZ (hw _ (List.mem_of_getElem? (i := 39) rfl))) (by decide) (backOf (W := 0) (rm5 l Z a0 hw [] b1 _ _ _ _ _ _ _ _ _ _ _ _ _ _ _  T50.heap n0 Z50 HB50) hZ (hw _ (List.mem_of_getElem? (i := 41) rfl)) (hw _ (List.mem_of_getElem? (i := 2) rfl)) (by decide) (by decide)) q57a q57c (g := (mkF m 77 #[.val (.int p1), .val (.int p2), .val (.int p3), .val (.int p4), .val (.int p5), .val (.ref b1), .val (.ref bB_37), .val (.int (Int32.ofNat nB_37)), .val (.ref bB_50), .unset, .unset, .unset] [(.ref b1)])) rfl (by rw [hml]; rfl) (Steps.refl _) (argsL := []) (rest := []) (lenOf pd_2 rfl) rfl (by show 2 * 0 + _ ≤ _; exact Nat.le_of_eq rfl) (hb hby at_77) (fun _ _ => ⟨rfl, Qe54, (by decide : 9 + 0 ≤ _), (by decide : 82263 + 0 ≤ _)⟩)
        dsimp only [Pt.U, Pt.locs, Pt.cells, Pt.slots] at X57 l57 y57 z57 st57 hQ57
        subst l57 y57 z57
        obtain ⟨rfl, N57q, Qe57⟩ := hQ57
        have N57 := Fr.app N54 N57q
        have ac58 : ∀ t, Steps p.tables e below (T57.setTop (mkF m 80 #[.val (.int p1), .val (.int p2), .val (.int p3), .val (.int p4), .val (.int p5), .val (.ref b1), .val (.ref bB_37), .val (.int (Int32.ofNat nB_37)), .val (.ref bB_50), .unset, .unset, .unset] [(.int (0 : Int32))])) t → Steps p.tables e below (s₁.setTop (entryFrame m #[(.int p1), (.int p2), (.int p3), (.int p4), (.int p5)] maxLocals)) t := fun t k => ac56 t (st57.trans k)
        obtain ⟨-, -, -, -, -, -, -, -, -, -, -, -, -, -, Vb1, -⟩ := id HB50
        have ac59 : ∀ t, Steps p.tables e below (T57.setTop (mkF m 105 #[.val (.int p1), .val (.int p2), .val (.int p3), .val (.int p4), .val (.int p5), .val (.ref b1), .val (.ref bB_37), .val (.int (Int32.ofNat nB_37)), .val (.ref bB_50), .val (.int (1 : Int32)), .unset, .unset] [(.ref bB_50)])) t → Steps p.tables e below (s₁.setTop (entryFrame m #[(.int p1), (.int p2), (.int p3), (.int p4), (.int p5)] maxLocals)) t := fun t k => ac58 t (by
            show Steps p.tables e below (T57.setTop (mkF m 80 #[.val (.int p1), .val (.int p2), .val (.int p3), .val (.int p4), .val (.int p5), .val (.ref b1), .val (.ref bB_37), .val (.int (Int32.ofNat nB_37)), .val (.ref bB_50), .unset, .unset, .unset] [(.int (0 : Int32))])) _
            refine XS.ifNo X57.here hx rfl (hb hby at_80) rfl ((if0 _ _).trans (teq rfl).2) ?_
            show Steps p.tables e below (T57.setTop (mkF m 83 #[.val (.int p1), .val (.int p2), .val (.int p3), .val (.int p4), .val (.int p5), .val (.ref b1), .val (.ref bB_37), .val (.int (Int32.ofNat nB_37)), .val (.ref bB_50), .unset, .unset, .unset] [])) _
            refine XS.iconst X57.here hx rfl (hb hby at_83) ?_
            show Steps p.tables e below (T57.setTop (mkF m 84 #[.val (.int p1), .val (.int p2), .val (.int p3), .val (.int p4), .val (.int p5), .val (.ref b1), .val (.ref bB_37), .val (.int (Int32.ofNat nB_37)), .val (.ref bB_50), .unset, .unset, .unset] [(.int (1 : Int32))])) _
            refine XS.goto X57.here hx rfl (pc0 := 84) (pc' := 88) rfl (hb hby at_84) (by decide) (by decide) ?_
            show Steps p.tables e below (T57.setTop (mkF m 88 #[.val (.int p1), .val (.int p2), .val (.int p3), .val (.int p4), .val (.int p5), .val (.ref b1), .val (.ref bB_37), .val (.int (Int32.ofNat nB_37)), .val (.ref bB_50), .unset, .unset, .unset] [(.int (1 : Int32))])) _
            refine XS.istore X57.here hx rfl (hb hby at_88) rfl (l' := #[.val (.int p1), .val (.int p2), .val (.int p3), .val (.int p4), .val (.int p5), .val (.ref b1), .val (.ref bB_37), .val (.int (Int32.ofNat nB_37)), .val (.ref bB_50), .val (.int (1 : Int32)), .unset, .unset]) rfl ?_
            show Steps p.tables e below (T57.setTop (mkF m 90 #[.val (.int p1), .val (.int p2), .val (.int p3), .val (.int p4), .val (.int p5), .val (.ref b1), .val (.ref bB_37), .val (.int (Int32.ofNat nB_37)), .val (.ref bB_50), .val (.int (1 : Int32)), .unset, .unset] [])) _
            refine XS.iload X57.here hx rfl (hb hby at_90) rfl ?_
            show Steps p.tables e below (T57.setTop (mkF m 92 #[.val (.int p1), .val (.int p2), .val (.int p3), .val (.int p4), .val (.int p5), .val (.ref b1), .val (.ref bB_37), .val (.int (Int32.ofNat nB_37)), .val (.ref bB_50), .val (.int (1 : Int32)), .unset, .unset] [(.int (Int32.ofNat nB_37))])) _
            refine XS.sipush X57.here hx rfl (hb hby at_92) ?_
            show Steps p.tables e below (T57.setTop (mkF m 95 #[.val (.int p1), .val (.int p2), .val (.int p3), .val (.int p4), .val (.int p5), .val (.ref b1), .val (.ref bB_37), .val (.int (Int32.ofNat nB_37)), .val (.ref bB_50), .val (.int (1 : Int32)), .unset, .unset] [(.int (16384 : Int32)), (.int (Int32.ofNat nB_37))])) _
            refine XS.icmpNo X57.here hx rfl (hb hby at_95) rfl (tlt (own_lt_of (by omega))).2.2.2 ?_
            show Steps p.tables e below (T57.setTop (mkF m 98 #[.val (.int p1), .val (.int p2), .val (.int p3), .val (.int p4), .val (.int p5), .val (.ref b1), .val (.ref bB_37), .val (.int (Int32.ofNat nB_37)), .val (.ref bB_50), .val (.int (1 : Int32)), .unset, .unset] [])) _
            refine XS.iload X57.here hx rfl (hb hby at_98) rfl ?_
            show Steps p.tables e below (T57.setTop (mkF m 100 #[.val (.int p1), .val (.int p2), .val (.int p3), .val (.int p4), .val (.int p5), .val (.ref b1), .val (.ref bB_37), .val (.int (Int32.ofNat nB_37)), .val (.ref bB_50), .val (.int (1 : Int32)), .unset, .unset] [(.int (1 : Int32))])) _
            refine XS.ifNo X57.here hx rfl (hb hby at_100) rfl ((if0 _ _).trans (feq (by decide)).1) ?_
            show Steps p.tables e below (T57.setTop (mkF m 103 #[.val (.int p1), .val (.int p2), .val (.int p3), .val (.int p4), .val (.int p5), .val (.ref b1), .val (.ref bB_37), .val (.int (Int32.ofNat nB_37)), .val (.ref bB_50), .val (.int (1 : Int32)), .unset, .unset] [])) _
            refine XS.aload X57.here hx rfl (hb hby at_103) rfl rfl ?_
            exact k)
        obtain ⟨cl60, Ac60, hl60, hb60⟩ := Vb1.len
        have ac61 : ∀ t, Steps p.tables e below (T57.setTop (mkF m 148 #[.val (.int p1), .val (.int p2), .val (.int p3), .val (.int p4), .val (.int p5), .val (.ref b1), .val (.ref bB_37), .val (.int (Int32.ofNat nB_37)), .val (.ref bB_50), .val (.int (1 : Int32)), .unset, .unset] [(.ref bB_50), (.int (p5 &&& (2147483647 : Int32)))])) t → Steps p.tables e below (s₁.setTop (entryFrame m #[(.int p1), (.int p2), (.int p3), (.int p4), (.int p5)] maxLocals)) t := fun t k => ac59 t (by
            show Steps p.tables e below (T57.setTop (mkF m 105 #[.val (.int p1), .val (.int p2), .val (.int p3), .val (.int p4), .val (.int p5), .val (.ref b1), .val (.ref bB_37), .val (.int (Int32.ofNat nB_37)), .val (.ref bB_50), .val (.int (1 : Int32)), .unset, .unset] [(.ref bB_50)])) _
            refine X57.arraylength hx (by rw [Qe57]; exact Ac60.1) (State.isArrayOf_alike hZ.alike Ac60.2.1) (g := (mkF m 105 #[.val (.int p1), .val (.int p2), .val (.int p3), .val (.int p4), .val (.int p5), .val (.ref b1), .val (.ref bB_37), .val (.int (Int32.ofNat nB_37)), .val (.ref bB_50), .val (.int (1 : Int32)), .unset, .unset] [(.ref bB_50)])) rfl rfl (hb hby at_105) _ ?_
            rw [hl60]
            show Steps p.tables e below (T57.setTop (mkF m 106 #[.val (.int p1), .val (.int p2), .val (.int p3), .val (.int p4), .val (.int p5), .val (.ref b1), .val (.ref bB_37), .val (.int (Int32.ofNat nB_37)), .val (.ref bB_50), .val (.int (1 : Int32)), .unset, .unset] [(.int (Int32.ofNat 16384))])) _
            refine XS.sipush X57.here hx rfl (hb hby at_106) ?_
            show Steps p.tables e below (T57.setTop (mkF m 109 #[.val (.int p1), .val (.int p2), .val (.int p3), .val (.int p4), .val (.int p5), .val (.ref b1), .val (.ref bB_37), .val (.int (Int32.ofNat nB_37)), .val (.ref bB_50), .val (.int (1 : Int32)), .unset, .unset] [(.int (16384 : Int32)), (.int (Int32.ofNat 16384))])) _
            refine XS.icmpNo X57.here hx rfl (hb hby at_109) rfl (teq rfl).2 ?_
            show Steps p.tables e below (T57.setTop (mkF m 112 #[.val (.int p1), .val (.int p2), .val (.int p3), .val (.int p4), .val (.int p5), .val (.ref b1), .val (.ref bB_37), .val (.int (Int32.ofNat nB_37)), .val (.ref bB_50), .val (.int (1 : Int32)), .unset, .unset] [])) _
            refine XS.iconst X57.here hx rfl (hb hby at_112) ?_
            show Steps p.tables e below (T57.setTop (mkF m 113 #[.val (.int p1), .val (.int p2), .val (.int p3), .val (.int p4), .val (.int p5), .val (.ref b1), .val (.ref bB_37), .val (.int (Int32.ofNat nB_37)), .val (.ref bB_50), .val (.int (1 : Int32)), .unset, .unset] [(.int (1 : Int32))])) _
            refine XS.goto X57.here hx rfl (pc0 := 113) (pc' := 117) rfl (hb hby at_113) (by decide) (by decide) ?_
            show Steps p.tables e below (T57.setTop (mkF m 117 #[.val (.int p1), .val (.int p2), .val (.int p3), .val (.int p4), .val (.int p5), .val (.ref b1), .val (.ref bB_37), .val (.int (Int32.ofNat nB_37)), .val (.ref bB_50), .val (.int (1 : Int32)), .unset, .unset] [(.int (1 : Int32))])) _
            refine XS.istore X57.here hx rfl (hb hby at_117) rfl (l' := #[.val (.int p1), .val (.int p2), .val (.int p3), .val (.int p4), .val (.int p5), .val (.ref b1), .val (.ref bB_37), .val (.int (Int32.ofNat nB_37)), .val (.ref bB_50), .val (.int (1 : Int32)), .unset, .unset]) rfl ?_
            show Steps p.tables e below (T57.setTop (mkF m 119 #[.val (.int p1), .val (.int p2), .val (.int p3), .val (.int p4), .val (.int p5), .val (.ref b1), .val (.ref bB_37), .val (.int (Int32.ofNat nB_37)), .val (.ref bB_50), .val (.int (1 : Int32)), .unset, .unset] [])) _
            refine XS.goto X57.here hx rfl (pc0 := 119) (pc' := 141) rfl (hb hby at_119) (by decide) (by decide) ?_
            show Steps p.tables e below (T57.setTop (mkF m 141 #[.val (.int p1), .val (.int p2), .val (.int p3), .val (.int p4), .val (.int p5), .val (.ref b1), .val (.ref bB_37), .val (.int (Int32.ofNat nB_37)), .val (.ref bB_50), .val (.int (1 : Int32)), .unset, .unset] [])) _
            refine XS.iload X57.here hx rfl (hb hby at_141) rfl ?_
            show Steps p.tables e below (T57.setTop (mkF m 143 #[.val (.int p1), .val (.int p2), .val (.int p3), .val (.int p4), .val (.int p5), .val (.ref b1), .val (.ref bB_37), .val (.int (Int32.ofNat nB_37)), .val (.ref bB_50), .val (.int (1 : Int32)), .unset, .unset] [(.int p5)])) _
            refine X57.ldcInt hx hown (mvT hZ (hw _ (List.mem_of_getElem? (i := 42) rfl))) (g := (mkF m 143 #[.val (.int p1), .val (.int p2), .val (.int p3), .val (.int p4), .val (.int p5), .val (.ref b1), .val (.ref bB_37), .val (.int (Int32.ofNat nB_37)), .val (.ref bB_50), .val (.int (1 : Int32)), .unset, .unset] [(.int p5)])) rfl (hb hby at_143) _ ?_
            show Steps p.tables e below (T57.setTop (mkF m 145 #[.val (.int p1), .val (.int p2), .val (.int p3), .val (.int p4), .val (.int p5), .val (.ref b1), .val (.ref bB_37), .val (.int (Int32.ofNat nB_37)), .val (.ref bB_50), .val (.int (1 : Int32)), .unset, .unset] [(.int (2147483647 : Int32)), (.int p5)])) _
            refine XS.iand X57.here hx rfl (hb hby at_145) rfl ?_
            show Steps p.tables e below (T57.setTop (mkF m 146 #[.val (.int p1), .val (.int p2), .val (.int p3), .val (.int p4), .val (.int p5), .val (.ref b1), .val (.ref bB_37), .val (.int (Int32.ofNat nB_37)), .val (.ref bB_50), .val (.int (1 : Int32)), .unset, .unset] [(.int (p5 &&& (2147483647 : Int32)))])) _
            refine XS.aload X57.here hx rfl (hb hby at_146) rfl rfl ?_
            exact k)
        obtain ⟨cl62, Ac62, hl62, hb62⟩ := Vb1.len
        have hlen2 := own_ofNat hb62
        have hp1 := own_p1 hlen2 hle16
        have hr2 := own_remle (p := p5) hp1
        have hs2 := own_sub0 16384 (by omega)
        have ac63 : ∀ t, Steps p.tables e below (T57.setTop (mkF m 162 #[.val (.int p1), .val (.int p2), .val (.int p3), .val (.int p4), .val (.int p5), .val (.ref b1), .val (.ref bB_37), .val (.int (Int32.ofNat nB_37)), .val (.ref bB_50), .val (.int (1 : Int32)), .val (.int ((p5 &&& (2147483647 : Int32)) % ((Int32.ofNat 16384) + (1 : Int32)))), .unset] [(.int ((p5 &&& (2147483647 : Int32)) % ((Int32.ofNat 16384) + (1 : Int32)))), (.int (p4 ^^^ (-1 : Int32))), (.int p4), (.ref b1)])) t → Steps p.tables e below (s₁.setTop (entryFrame m #[(.int p1), (.int p2), (.int p3), (.int p4), (.int p5)] maxLocals)) t := fun t k => ac61 t (by
            show Steps p.tables e below (T57.setTop (mkF m 148 #[.val (.int p1), .val (.int p2), .val (.int p3), .val (.int p4), .val (.int p5), .val (.ref b1), .val (.ref bB_37), .val (.int (Int32.ofNat nB_37)), .val (.ref bB_50), .val (.int (1 : Int32)), .unset, .unset] [(.ref bB_50), (.int (p5 &&& (2147483647 : Int32)))])) _
            refine X57.arraylength hx (by rw [Qe57]; exact Ac62.1) (State.isArrayOf_alike hZ.alike Ac62.2.1) (g := (mkF m 148 #[.val (.int p1), .val (.int p2), .val (.int p3), .val (.int p4), .val (.int p5), .val (.ref b1), .val (.ref bB_37), .val (.int (Int32.ofNat nB_37)), .val (.ref bB_50), .val (.int (1 : Int32)), .unset, .unset] [(.ref bB_50), (.int (p5 &&& (2147483647 : Int32)))])) rfl rfl (hb hby at_148) _ ?_
            rw [hl62]
            show Steps p.tables e below (T57.setTop (mkF m 149 #[.val (.int p1), .val (.int p2), .val (.int p3), .val (.int p4), .val (.int p5), .val (.ref b1), .val (.ref bB_37), .val (.int (Int32.ofNat nB_37)), .val (.ref bB_50), .val (.int (1 : Int32)), .unset, .unset] [(.int (Int32.ofNat 16384)), (.int (p5 &&& (2147483647 : Int32)))])) _
            refine XS.iconst X57.here hx rfl (hb hby at_149) ?_
            show Steps p.tables e below (T57.setTop (mkF m 150 #[.val (.int p1), .val (.int p2), .val (.int p3), .val (.int p4), .val (.int p5), .val (.ref b1), .val (.ref bB_37), .val (.int (Int32.ofNat nB_37)), .val (.ref bB_50), .val (.int (1 : Int32)), .unset, .unset] [(.int (1 : Int32)), (.int (Int32.ofNat 16384)), (.int (p5 &&& (2147483647 : Int32)))])) _
            refine XS.iadd X57.here hx rfl (hb hby at_150) rfl ?_
            show Steps p.tables e below (T57.setTop (mkF m 151 #[.val (.int p1), .val (.int p2), .val (.int p3), .val (.int p4), .val (.int p5), .val (.ref b1), .val (.ref bB_37), .val (.int (Int32.ofNat nB_37)), .val (.ref bB_50), .val (.int (1 : Int32)), .unset, .unset] [(.int ((Int32.ofNat 16384) + (1 : Int32))), (.int (p5 &&& (2147483647 : Int32)))])) _
            refine iremM X57 hx rfl (hb hby at_151) rfl (own_nz hp1) ?_
            show Steps p.tables e below (T57.setTop (mkF m 152 #[.val (.int p1), .val (.int p2), .val (.int p3), .val (.int p4), .val (.int p5), .val (.ref b1), .val (.ref bB_37), .val (.int (Int32.ofNat nB_37)), .val (.ref bB_50), .val (.int (1 : Int32)), .unset, .unset] [(.int ((p5 &&& (2147483647 : Int32)) % ((Int32.ofNat 16384) + (1 : Int32))))])) _
            refine XS.istore X57.here hx rfl (hb hby at_152) rfl (l' := #[.val (.int p1), .val (.int p2), .val (.int p3), .val (.int p4), .val (.int p5), .val (.ref b1), .val (.ref bB_37), .val (.int (Int32.ofNat nB_37)), .val (.ref bB_50), .val (.int (1 : Int32)), .val (.int ((p5 &&& (2147483647 : Int32)) % ((Int32.ofNat 16384) + (1 : Int32)))), .unset]) rfl ?_
            show Steps p.tables e below (T57.setTop (mkF m 154 #[.val (.int p1), .val (.int p2), .val (.int p3), .val (.int p4), .val (.int p5), .val (.ref b1), .val (.ref bB_37), .val (.int (Int32.ofNat nB_37)), .val (.ref bB_50), .val (.int (1 : Int32)), .val (.int ((p5 &&& (2147483647 : Int32)) % ((Int32.ofNat 16384) + (1 : Int32)))), .unset] [])) _
            refine XS.aload X57.here hx rfl (hb hby at_154) rfl rfl ?_
            show Steps p.tables e below (T57.setTop (mkF m 156 #[.val (.int p1), .val (.int p2), .val (.int p3), .val (.int p4), .val (.int p5), .val (.ref b1), .val (.ref bB_37), .val (.int (Int32.ofNat nB_37)), .val (.ref bB_50), .val (.int (1 : Int32)), .val (.int ((p5 &&& (2147483647 : Int32)) % ((Int32.ofNat 16384) + (1 : Int32)))), .unset] [(.ref b1)])) _
            refine XS.iloadN X57.here hx rfl (hb hby at_156) rfl ?_
            show Steps p.tables e below (T57.setTop (mkF m 157 #[.val (.int p1), .val (.int p2), .val (.int p3), .val (.int p4), .val (.int p5), .val (.ref b1), .val (.ref bB_37), .val (.int (Int32.ofNat nB_37)), .val (.ref bB_50), .val (.int (1 : Int32)), .val (.int ((p5 &&& (2147483647 : Int32)) % ((Int32.ofNat 16384) + (1 : Int32)))), .unset] [(.int p4), (.ref b1)])) _
            refine XS.iloadN X57.here hx rfl (hb hby at_157) rfl ?_
            show Steps p.tables e below (T57.setTop (mkF m 158 #[.val (.int p1), .val (.int p2), .val (.int p3), .val (.int p4), .val (.int p5), .val (.ref b1), .val (.ref bB_37), .val (.int (Int32.ofNat nB_37)), .val (.ref bB_50), .val (.int (1 : Int32)), .val (.int ((p5 &&& (2147483647 : Int32)) % ((Int32.ofNat 16384) + (1 : Int32)))), .unset] [(.int p4), (.int p4), (.ref b1)])) _
            refine XS.iconst X57.here hx rfl (hb hby at_158) ?_
            show Steps p.tables e below (T57.setTop (mkF m 159 #[.val (.int p1), .val (.int p2), .val (.int p3), .val (.int p4), .val (.int p5), .val (.ref b1), .val (.ref bB_37), .val (.int (Int32.ofNat nB_37)), .val (.ref bB_50), .val (.int (1 : Int32)), .val (.int ((p5 &&& (2147483647 : Int32)) % ((Int32.ofNat 16384) + (1 : Int32)))), .unset] [(.int (-1 : Int32)), (.int p4), (.int p4), (.ref b1)])) _
            refine XS.ixor X57.here hx rfl (hb hby at_159) rfl ?_
            show Steps p.tables e below (T57.setTop (mkF m 160 #[.val (.int p1), .val (.int p2), .val (.int p3), .val (.int p4), .val (.int p5), .val (.ref b1), .val (.ref bB_37), .val (.int (Int32.ofNat nB_37)), .val (.ref bB_50), .val (.int (1 : Int32)), .val (.int ((p5 &&& (2147483647 : Int32)) % ((Int32.ofNat 16384) + (1 : Int32)))), .unset] [(.int (p4 ^^^ (-1 : Int32))), (.int p4), (.ref b1)])) _
            refine XS.iload X57.here hx rfl (hb hby at_160) rfl ?_
            exact k)
        obtain ⟨cq64, kq64, q64a, q64b, q64c⟩ := isOf hZ Qe57 HB50.1
        obtain ⟨_, _, ⟨T64, L64, k64, n64⟩, -, X64, ⟨Lc64, hQ64, l64, y64, z64⟩, st64⟩ := X57.virtualBack hx (y := (⟨"com/example/termwright/termwright/TokenList", "add", "(III)I"⟩ : MethodName)) (z := (⟨"com/example/termwright/termwright/TokenList", "add", "(III)I"⟩ : MethodName)) hown (mvT hZ (hw _ (List.mem_of_getElem? (i := 43) rfl))) (mvT hZ (hw _ (List.mem_of_getElem? (i := 44) rfl))) (notFace_of_selects (args := #[]) (mvT hZ (hw _ (List.mem_of_getElem? (i := 46) rfl)))) (mvT hZ (hw _ (List.mem_of_getElem? (i := 46) rfl))) (mvT hZ (hw _ (List.mem_of_getElem? (i := 45) rfl))) (by decide) (backOf (W := 0) (rm6n l Z a0 hw [] b1 p4 (p4 ^^^ (-1 : Int32)) ((p5 &&& (2147483647 : Int32)) % ((Int32.ofNat 16384) + (1 : Int32))) _ _ _ _ _ _ _ _ _ _ _ _ _  T50.heap n0 Z50 HB50 g_b1 (own_nlt_of (by omega))) hZ (hw _ (List.mem_of_getElem? (i := 47) rfl)) (hw _ (List.mem_of_getElem? (i := 2) rfl)) (by decide) (by decide)) q64a q64c (g := (mkF m 162 #[.val (.int p1), .val (.int p2), .val (.int p3), .val (.int p4), .val (.int p5), .val (.ref b1), .val (.ref bB_37), .val (.int (Int32.ofNat nB_37)), .val (.ref bB_50), .val (.int (1 : Int32)), .val (.int ((p5 &&& (2147483647 : Int32)) % ((Int32.ofNat 16384) + (1 : Int32)))), .unset] [(.int ((p5 &&& (2147483647 : Int32)) % ((Int32.ofNat 16384) + (1 : Int32)))), (.int (p4 ^^^ (-1 : Int32))), (.int p4), (.ref b1)])) rfl (by rw [hml]; rfl) (Steps.refl _) (argsL := [(.int p4), (.int (p4 ^^^ (-1 : Int32))), (.int ((p5 &&& (2147483647 : Int32)) % ((Int32.ofNat 16384) + (1 : Int32))))]) (rest := []) (lenOf pd_3 rfl) rfl (by show 2 * 0 + _ ≤ _; exact Nat.le_of_eq rfl) (hb hby at_162) (fun _ _ => ⟨rfl, Qe57, (by decide : 9 + 0 ≤ _), (by decide : 82263 + 0 ≤ _)⟩)
        dsimp only [Pt.U, Pt.locs, Pt.cells, Pt.slots] at X64 l64 y64 z64 st64 hQ64
        subst l64 y64 z64
        obtain ⟨f1_64, f2_64, f3_64, f4_64, f5_64, rfl, N64q, K64q, hf64, HB64⟩ := hQ64
        have N64 := Fr.app N57 N64q
        have Ef65 := HB50.1.keep K64q
        have Z64 : n0 ≤ T64.heap.size := Nat.le_trans Z50 K64q.1
        have ac66 : ∀ t, Steps p.tables e below (T64.setTop (mkF m 165 #[.val (.int p1), .val (.int p2), .val (.int p3), .val (.int p4), .val (.int p5), .val (.ref b1), .val (.ref bB_37), .val (.int (Int32.ofNat nB_37)), .val (.ref bB_50), .val (.int (1 : Int32)), .val (.int ((p5 &&& (2147483647 : Int32)) % ((Int32.ofNat 16384) + (1 : Int32)))), .unset] [(.int (0 : Int32))])) t → Steps p.tables e below (s₁.setTop (entryFrame m #[(.int p1), (.int p2), (.int p3), (.int p4), (.int p5)] maxLocals)) t := fun t k => ac63 t (st64.trans k)
        have ac67 : ∀ t, Steps p.tables e below (T64.setTop (mkF m 179 #[.val (.int p1), .val (.int p2), .val (.int p3), .val (.int p4), .val (.int p5), .val (.ref b1), .val (.ref bB_37), .val (.int (Int32.ofNat nB_37)), .val (.ref bB_50), .val (.int (1 : Int32)), .val (.int ((p5 &&& (2147483647 : Int32)) % ((Int32.ofNat 16384) + (1 : Int32)))), .val (.int (0 : Int32))] [(.ref b1)])) t → Steps p.tables e below (s₁.setTop (entryFrame m #[(.int p1), (.int p2), (.int p3), (.int p4), (.int p5)] maxLocals)) t := fun t k => ac66 t (by
            show Steps p.tables e below (T64.setTop (mkF m 165 #[.val (.int p1), .val (.int p2), .val (.int p3), .val (.int p4), .val (.int p5), .val (.ref b1), .val (.ref bB_37), .val (.int (Int32.ofNat nB_37)), .val (.ref bB_50), .val (.int (1 : Int32)), .val (.int ((p5 &&& (2147483647 : Int32)) % ((Int32.ofNat 16384) + (1 : Int32)))), .unset] [(.int (0 : Int32))])) _
            refine XS.istore X64.here hx rfl (hb hby at_165) rfl (l' := #[.val (.int p1), .val (.int p2), .val (.int p3), .val (.int p4), .val (.int p5), .val (.ref b1), .val (.ref bB_37), .val (.int (Int32.ofNat nB_37)), .val (.ref bB_50), .val (.int (1 : Int32)), .val (.int ((p5 &&& (2147483647 : Int32)) % ((Int32.ofNat 16384) + (1 : Int32)))), .val (.int (0 : Int32))]) rfl ?_
            show Steps p.tables e below (T64.setTop (mkF m 167 #[.val (.int p1), .val (.int p2), .val (.int p3), .val (.int p4), .val (.int p5), .val (.ref b1), .val (.ref bB_37), .val (.int (Int32.ofNat nB_37)), .val (.ref bB_50), .val (.int (1 : Int32)), .val (.int ((p5 &&& (2147483647 : Int32)) % ((Int32.ofNat 16384) + (1 : Int32)))), .val (.int (0 : Int32))] [])) _
            refine XS.iload X64.here hx rfl (hb hby at_167) rfl ?_
            show Steps p.tables e below (T64.setTop (mkF m 169 #[.val (.int p1), .val (.int p2), .val (.int p3), .val (.int p4), .val (.int p5), .val (.ref b1), .val (.ref bB_37), .val (.int (Int32.ofNat nB_37)), .val (.ref bB_50), .val (.int (1 : Int32)), .val (.int ((p5 &&& (2147483647 : Int32)) % ((Int32.ofNat 16384) + (1 : Int32)))), .val (.int (0 : Int32))] [(.int (1 : Int32))])) _
            refine XS.ifNo X64.here hx rfl (hb hby at_169) rfl ((if0 _ _).trans (feq (by decide)).1) ?_
            show Steps p.tables e below (T64.setTop (mkF m 172 #[.val (.int p1), .val (.int p2), .val (.int p3), .val (.int p4), .val (.int p5), .val (.ref b1), .val (.ref bB_37), .val (.int (Int32.ofNat nB_37)), .val (.ref bB_50), .val (.int (1 : Int32)), .val (.int ((p5 &&& (2147483647 : Int32)) % ((Int32.ofNat 16384) + (1 : Int32)))), .val (.int (0 : Int32))] [])) _
            refine XS.iload X64.here hx rfl (hb hby at_172) rfl ?_
            show Steps p.tables e below (T64.setTop (mkF m 174 #[.val (.int p1), .val (.int p2), .val (.int p3), .val (.int p4), .val (.int p5), .val (.ref b1), .val (.ref bB_37), .val (.int (Int32.ofNat nB_37)), .val (.ref bB_50), .val (.int (1 : Int32)), .val (.int ((p5 &&& (2147483647 : Int32)) % ((Int32.ofNat 16384) + (1 : Int32)))), .val (.int (0 : Int32))] [(.int (0 : Int32))])) _
            refine XS.ifNo X64.here hx rfl (hb hby at_174) rfl ((if0 _ _).trans (teq rfl).2) ?_
            show Steps p.tables e below (T64.setTop (mkF m 177 #[.val (.int p1), .val (.int p2), .val (.int p3), .val (.int p4), .val (.int p5), .val (.ref b1), .val (.ref bB_37), .val (.int (Int32.ofNat nB_37)), .val (.ref bB_50), .val (.int (1 : Int32)), .val (.int ((p5 &&& (2147483647 : Int32)) % ((Int32.ofNat 16384) + (1 : Int32)))), .val (.int (0 : Int32))] [])) _
            refine XS.aload X64.here hx rfl (hb hby at_177) rfl rfl ?_
            exact k)
        obtain ⟨cq68, kq68, q68a, q68b, q68c⟩ := isOf hZ rfl HB64.1
        obtain ⟨_, _, ⟨T68, L68, k68, n68⟩, -, X68, ⟨Lc68, hQ68, l68, y68, z68⟩, st68⟩ := X64.virtualBack hx (y := (⟨"com/example/termwright/termwright/TokenList", "termBytes", "()[B"⟩ : MethodName)) (z := (⟨"com/example/termwright/termwright/TokenList", "termBytes", "()[B"⟩ : MethodName)) hown (mvT hZ (hw _ (List.mem_of_getElem? (i := 23) rfl))) (mvT hZ (hw _ (List.mem_of_getElem? (i := 24) rfl))) (notFace_of_selects (args := #[]) (mvT hZ (hw _ (List.mem_of_getElem? (i := 26) rfl)))) (mvT hZ (hw _ (List.mem_of_getElem? (i := 26) rfl))) (mvT hZ (hw _ (List.mem_of_getElem? (i := 25) rfl))) (by decide) (backOf (W := 0) (rm3 l Z a0 hw [] b1 _ _ _ _ _ _ _ _ _ _ _ _ _ _ _  T64.heap n0 Z64 HB64) hZ (hw _ (List.mem_of_getElem? (i := 27) rfl)) (hw _ (List.mem_of_getElem? (i := 2) rfl)) (by decide) (by decide)) q68a q68c (g := (mkF m 179 #[.val (.int p1), .val (.int p2), .val (.int p3), .val (.int p4), .val (.int p5), .val (.ref b1), .val (.ref bB_37), .val (.int (Int32.ofNat nB_37)), .val (.ref bB_50), .val (.int (1 : Int32)), .val (.int ((p5 &&& (2147483647 : Int32)) % ((Int32.ofNat 16384) + (1 : Int32)))), .val (.int (0 : Int32))] [(.ref b1)])) rfl (by rw [hml]; rfl) (Steps.refl _) (argsL := []) (rest := []) (lenOf pd_1 rfl) rfl (by show 2 * 0 + _ ≤ _; exact Nat.le_of_eq rfl) (hb hby at_179) (fun _ _ => ⟨rfl, rfl, (by decide : 9 + 0 ≤ _), (by decide : 82263 + 0 ≤ _)⟩)
        dsimp only [Pt.U, Pt.locs, Pt.cells, Pt.slots] at X68 l68 y68 z68 st68 hQ68
        subst l68 y68 z68
        obtain ⟨rfl, N68q, Qe68⟩ := hQ68
        have N68 := Fr.app N64 N68q
        have ac69 : ∀ t, Steps p.tables e below (T68.setTop (mkF m 182 #[.val (.int p1), .val (.int p2), .val (.int p3), .val (.int p4), .val (.int p5), .val (.ref b1), .val (.ref bB_37), .val (.int (Int32.ofNat nB_37)), .val (.ref bB_50), .val (.int (1 : Int32)), .val (.int ((p5 &&& (2147483647 : Int32)) % ((Int32.ofNat 16384) + (1 : Int32)))), .val (.int (0 : Int32))] [(.ref bB_50)])) t → Steps p.tables e below (s₁.setTop (entryFrame m #[(.int p1), (.int p2), (.int p3), (.int p4), (.int p5)] maxLocals)) t := fun t k => ac67 t (st68.trans k)
        have ac70 : ∀ t, Steps p.tables e below (T68.setTop (mkF m 190 #[.val (.int p1), .val (.int p2), .val (.int p3), .val (.int p4), .val (.int p5), .val (.ref b1), .val (.ref bB_37), .val (.int (Int32.ofNat nB_37)), .val (.ref bB_50), .val (.int (1 : Int32)), .val (.int ((p5 &&& (2147483647 : Int32)) % ((Int32.ofNat 16384) + (1 : Int32)))), .val (.int (0 : Int32))] [(.int (0 : Int32)), (.ref b1)])) t → Steps p.tables e below (s₁.setTop (entryFrame m #[(.int p1), (.int p2), (.int p3), (.int p4), (.int p5)] maxLocals)) t := fun t k => ac69 t (by
            show Steps p.tables e below (T68.setTop (mkF m 182 #[.val (.int p1), .val (.int p2), .val (.int p3), .val (.int p4), .val (.int p5), .val (.ref b1), .val (.ref bB_37), .val (.int (Int32.ofNat nB_37)), .val (.ref bB_50), .val (.int (1 : Int32)), .val (.int ((p5 &&& (2147483647 : Int32)) % ((Int32.ofNat 16384) + (1 : Int32)))), .val (.int (0 : Int32))] [(.ref bB_50)])) _
            refine XS.aload X68.here hx rfl (hb hby at_182) rfl rfl ?_
            show Steps p.tables e below (T68.setTop (mkF m 184 #[.val (.int p1), .val (.int p2), .val (.int p3), .val (.int p4), .val (.int p5), .val (.ref b1), .val (.ref bB_37), .val (.int (Int32.ofNat nB_37)), .val (.ref bB_50), .val (.int (1 : Int32)), .val (.int ((p5 &&& (2147483647 : Int32)) % ((Int32.ofNat 16384) + (1 : Int32)))), .val (.int (0 : Int32))] [(.ref bB_50), (.ref bB_50)])) _
            refine Jvm.RoadKit.acmp (g := (mkF m 184 #[.val (.int p1), .val (.int p2), .val (.int p3), .val (.int p4), .val (.int p5), .val (.ref b1), .val (.ref bB_37), .val (.int (Int32.ofNat nB_37)), .val (.ref bB_50), .val (.int (1 : Int32)), .val (.int ((p5 &&& (2147483647 : Int32)) % ((Int32.ofNat 16384) + (1 : Int32)))), .val (.int (0 : Int32))] [(.ref bB_50), (.ref bB_50)])) X68 hx rfl rfl rfl (pc0 := 184) (pc' := 187) (same := true) rfl (hb hby at_184) rfl (decide_eq_true rfl) (by decide) (by decide) ?_
            show Steps p.tables e below (T68.setTop (mkF m 187 #[.val (.int p1), .val (.int p2), .val (.int p3), .val (.int p4), .val (.int p5), .val (.ref b1), .val (.ref bB_37), .val (.int (Int32.ofNat nB_37)), .val (.ref bB_50), .val (.int (1 : Int32)), .val (.int ((p5 &&& (2147483647 : Int32)) % ((Int32.ofNat 16384) + (1 : Int32)))), .val (.int (0 : Int32))] [])) _
            refine XS.aload X68.here hx rfl (hb hby at_187) rfl rfl ?_
            show Steps p.tables e below (T68.setTop (mkF m 189 #[.val (.int p1), .val (.int p2), .val (.int p3), .val (.int p4), .val (.int p5), .val (.ref b1), .val (.ref bB_37), .val (.int (Int32.ofNat nB_37)), .val (.ref bB_50), .val (.int (1 : Int32)), .val (.int ((p5 &&& (2147483647 : Int32)) % ((Int32.ofNat 16384) + (1 : Int32)))), .val (.int (0 : Int32))] [(.ref b1)])) _
            refine XS.iconst X68.here hx rfl (hb hby at_189) ?_
            exact k)
        obtain ⟨cq71, kq71, q71a, q71b, q71c⟩ := isOf hZ Qe68 HB64.1
        obtain ⟨_, _, ⟨T71, L71, k71, n71⟩, -, X71, ⟨Lc71, hQ71, l71, y71, z71⟩, st71⟩ := X68.virtualBack hx (y := (⟨"com/example/termwright/termwright/TokenList", "start", "(I)I"⟩ : MethodName)) (z := (⟨"com/example/termwright/termwright/TokenList", "start", "(I)I"⟩ : MethodName)) hown (mvT hZ (hw _ (List.mem_of_getElem? (i := 52) rfl))) (mvT hZ (hw _ (List.mem_of_getElem? (i := 53) rfl))) (notFace_of_selects (args := #[]) (mvT hZ (hw _ (List.mem_of_getElem? (i := 55) rfl)))) (mvT hZ (hw _ (List.mem_of_getElem? (i := 55) rfl))) (mvT hZ (hw _ (List.mem_of_getElem? (i := 54) rfl))) (by decide) (backOf (W := 0) (rm8 l Z a0 hw [] b1 (0 : Int32) _ _ _ _ _ _ _ _ _ _ _ _ _ _ _ p4 T64.heap n0 Z64 HB64 rfl hf64) hZ (hw _ (List.mem_of_getElem? (i := 56) rfl)) (hw _ (List.mem_of_getElem? (i := 2) rfl)) (by decide) (by decide)) q71a q71c (g := (mkF m 190 #[.val (.int p1), .val (.int p2), .val (.int p3), .val (.int p4), .val (.int p5), .val (.ref b1), .val (.ref bB_37), .val (.int (Int32.ofNat nB_37)), .val (.ref bB_50), .val (.int (1 : Int32)), .val (.int ((p5 &&& (2147483647 : Int32)) % ((Int32.ofNat 16384) + (1 : Int32)))), .val (.int (0 : Int32))] [(.int (0 : Int32)), (.ref b1)])) rfl (by rw [hml]; rfl) (Steps.refl _) (argsL := [(.int (0 : Int32))]) (rest := []) (lenOf pd_5 rfl) rfl (by show 2 * 0 + _ ≤ _; exact Nat.le_of_eq rfl) (hb hby at_190) (fun _ _ => ⟨rfl, Qe68, (by decide : 9 + 0 ≤ _), (by decide : 82263 + 0 ≤ _)⟩)
        dsimp only [Pt.U, Pt.locs, Pt.cells, Pt.slots] at X71 l71 y71 z71 st71 hQ71
        subst l71 y71 z71
        obtain ⟨rfl, N71q, Qe71⟩ := hQ71
        have N71 := Fr.app N68 N71q
        have ac72 : ∀ t, Steps p.tables e below (T71.setTop (mkF m 193 #[.val (.int p1), .val (.int p2), .val (.int p3), .val (.int p4), .val (.int p5), .val (.ref b1), .val (.ref bB_37), .val (.int (Int32.ofNat nB_37)), .val (.ref bB_50), .val (.int (1 : Int32)), .val (.int ((p5 &&& (2147483647 : Int32)) % ((Int32.ofNat 16384) + (1 : Int32)))), .val (.int (0 : Int32))] [(.int p4)])) t → Steps p.tables e below (s₁.setTop (entryFrame m #[(.int p1), (.int p2), (.int p3), (.int p4), (.int p5)] maxLocals)) t := fun t k => ac70 t (st71.trans k)
        have ac73 : ∀ t, Steps p.tables e below (T71.setTop (mkF m 206 #[.val (.int p1), .val (.int p2), .val (.int p3), .val (.int p4), .val (.int p5), .val (.ref b1), .val (.ref bB_37), .val (.int (Int32.ofNat nB_37)), .val (.ref bB_50), .val (.int (1 : Int32)), .val (.int ((p5 &&& (2147483647 : Int32)) % ((Int32.ofNat 16384) + (1 : Int32)))), .val (.int (0 : Int32))] [(.int (1 : Int32))])) t → Steps p.tables e below (s₁.setTop (entryFrame m #[(.int p1), (.int p2), (.int p3), (.int p4), (.int p5)] maxLocals)) t := fun t k => ac72 t (by
            show Steps p.tables e below (T71.setTop (mkF m 193 #[.val (.int p1), .val (.int p2), .val (.int p3), .val (.int p4), .val (.int p5), .val (.ref b1), .val (.ref bB_37), .val (.int (Int32.ofNat nB_37)), .val (.ref bB_50), .val (.int (1 : Int32)), .val (.int ((p5 &&& (2147483647 : Int32)) % ((Int32.ofNat 16384) + (1 : Int32)))), .val (.int (0 : Int32))] [(.int p4)])) _
            refine XS.iloadN X71.here hx rfl (hb hby at_193) rfl ?_
            show Steps p.tables e below (T71.setTop (mkF m 194 #[.val (.int p1), .val (.int p2), .val (.int p3), .val (.int p4), .val (.int p5), .val (.ref b1), .val (.ref bB_37), .val (.int (Int32.ofNat nB_37)), .val (.ref bB_50), .val (.int (1 : Int32)), .val (.int ((p5 &&& (2147483647 : Int32)) % ((Int32.ofNat 16384) + (1 : Int32)))), .val (.int (0 : Int32))] [(.int p4), (.int p4)])) _
            refine XS.icmpNo X71.here hx rfl (hb hby at_194) rfl (teq rfl).2 ?_
            show Steps p.tables e below (T71.setTop (mkF m 197 #[.val (.int p1), .val (.int p2), .val (.int p3), .val (.int p4), .val (.int p5), .val (.ref b1), .val (.ref bB_37), .val (.int (Int32.ofNat nB_37)), .val (.ref bB_50), .val (.int (1 : Int32)), .val (.int ((p5 &&& (2147483647 : Int32)) % ((Int32.ofNat 16384) + (1 : Int32)))), .val (.int (0 : Int32))] [])) _
            refine XS.iconst X71.here hx rfl (hb hby at_197) ?_
            show Steps p.tables e below (T71.setTop (mkF m 198 #[.val (.int p1), .val (.int p2), .val (.int p3), .val (.int p4), .val (.int p5), .val (.ref b1), .val (.ref bB_37), .val (.int (Int32.ofNat nB_37)), .val (.ref bB_50), .val (.int (1 : Int32)), .val (.int ((p5 &&& (2147483647 : Int32)) % ((Int32.ofNat 16384) + (1 : Int32)))), .val (.int (0 : Int32))] [(.int (1 : Int32))])) _
            refine XS.goto X71.here hx rfl (pc0 := 198) (pc' := 202) rfl (hb hby at_198) (by decide) (by decide) ?_
            show Steps p.tables e below (T71.setTop (mkF m 202 #[.val (.int p1), .val (.int p2), .val (.int p3), .val (.int p4), .val (.int p5), .val (.ref b1), .val (.ref bB_37), .val (.int (Int32.ofNat nB_37)), .val (.ref bB_50), .val (.int (1 : Int32)), .val (.int ((p5 &&& (2147483647 : Int32)) % ((Int32.ofNat 16384) + (1 : Int32)))), .val (.int (0 : Int32))] [(.int (1 : Int32))])) _
            refine XS.istore X71.here hx rfl (hb hby at_202) rfl (l' := #[.val (.int p1), .val (.int p2), .val (.int p3), .val (.int p4), .val (.int p5), .val (.ref b1), .val (.ref bB_37), .val (.int (Int32.ofNat nB_37)), .val (.ref bB_50), .val (.int (1 : Int32)), .val (.int ((p5 &&& (2147483647 : Int32)) % ((Int32.ofNat 16384) + (1 : Int32)))), .val (.int (0 : Int32))]) rfl ?_
            show Steps p.tables e below (T71.setTop (mkF m 204 #[.val (.int p1), .val (.int p2), .val (.int p3), .val (.int p4), .val (.int p5), .val (.ref b1), .val (.ref bB_37), .val (.int (Int32.ofNat nB_37)), .val (.ref bB_50), .val (.int (1 : Int32)), .val (.int ((p5 &&& (2147483647 : Int32)) % ((Int32.ofNat 16384) + (1 : Int32)))), .val (.int (0 : Int32))] [])) _
            refine XS.iload X71.here hx rfl (hb hby at_204) rfl ?_
            exact k)
        obtain ⟨fs, hr, hrun, hended, hW, hsame⟩ := X71.leave (v := some (.int (1 : Int32))) (fun h => by rw [Bd.returns] at h; cases h) (BodyLoose.notSynchronized Bd)
        refine ⟨_, _, ac73 _ ?_, hrun, hended, _, _, rfl, ?_, ⟨_, rfl⟩, hW, hsame.mono (by decide) (by decide)⟩
        · show Steps p.tables e below (T71.setTop (mkF m 206 #[.val (.int p1), .val (.int p2), .val (.int p3), .val (.int p4), .val (.int p5), .val (.ref b1), .val (.ref bB_37), .val (.int (Int32.ofNat nB_37)), .val (.ref bB_50), .val (.int (1 : Int32)), .val (.int ((p5 &&& (2147483647 : Int32)) % ((Int32.ofNat 16384) + (1 : Int32)))), .val (.int (0 : Int32))] [(.int (1 : Int32))])) _
          exact retN X71 hx (t := .boolean) Bd.returns (by simp) (hb hby at_206) hr
        · show Q0 Z p1 p2 p3 p4 p5 h0 n0 _ T71.heap _
          rw [Qe71]
          exact ⟨rfl, N71⟩
      ·
        have hsmall := Nat.le_of_not_lt hbig
        have ac74 : ∀ t, Steps p.tables e below (T41.setTop (mkF m 53 #[.val (.int p1), .val (.int p2), .val (.int p3), .val (.int p4), .val (.int p5), .val (.ref b1), .val (.int (p2 &&& (65535 : Int32))), .val (.int ((p3 &&& (2147483647 : Int32)) % ((p2 &&& (65535 : Int32)) + (1 : Int32)))), .unset, .unset, .unset, .unset] [(.ref b1)])) t → Steps p.tables e below (s₁.setTop (entryFrame m #[(.int p1), (.int p2), (.int p3), (.int p4), (.int p5)] maxLocals)) t := fun t k => ac43 t (by
            show Steps p.tables e below (T41.setTop (mkF m 51 #[.val (.int p1), .val (.int p2), .val (.int p3), .val (.int p4), .val (.int p5), .val (.ref b1), .val (.int (p2 &&& (65535 : Int32))), .val (.int ((p3 &&& (2147483647 : Int32)) % ((p2 &&& (65535 : Int32)) + (1 : Int32)))), .unset, .unset, .unset, .unset] [])) _
            refine XS.aload X41.here hx rfl (hb hby at_51) rfl rfl ?_
            exact k)
        obtain ⟨cq75, kq75, q75a, q75b, q75c⟩ := isOf hZ rfl HB41.1
        obtain ⟨_, _, ⟨T75, L75, k75, n75⟩, -, X75, ⟨Lc75, hQ75, l75, y75, z75⟩, st75⟩ := X41.virtualBack hx (y := (⟨"com/example/termwright/termwright/TokenList", "termBytes", "()[B"⟩ : MethodName)) (z := (⟨"com/example/termwright/termwright/TokenList", "termBytes", "()[B"⟩ : MethodName)) hown (mvT hZ (hw _ (List.mem_of_getElem? (i := 23) rfl))) (mvT hZ (hw _ (List.mem_of_getElem? (i := 24) rfl))) (notFace_of_selects (args := #[]) (mvT hZ (hw _ (List.mem_of_getElem? (i := 26) rfl)))) (mvT hZ (hw _ (List.mem_of_getElem? (i := 26) rfl))) (mvT hZ (hw _ (List.mem_of_getElem? (i := 25) rfl))) (by decide) (backOf (W := 0) (rm3 l Z a0 hw [] b1 _ _ _ _ _ _ _ _ _ _ _ _ _ _ _  T41.heap n0 Z41 HB41) hZ (hw _ (List.mem_of_getElem? (i := 27) rfl)) (hw _ (List.mem_of_getElem? (i := 2) rfl)) (by decide) (by decide)) q75a q75c (g := (mkF m 53 #[.val (.int p1), .val (.int p2), .val (.int p3), .val (.int p4), .val (.int p5), .val (.ref b1), .val (.int (p2 &&& (65535 : Int32))), .val (.int ((p3 &&& (2147483647 : Int32)) % ((p2 &&& (65535 : Int32)) + (1 : Int32)))), .unset, .unset, .unset, .unset] [(.ref b1)])) rfl (by rw [hml]; rfl) (Steps.refl _) (argsL := []) (rest := []) (lenOf pd_1 rfl) rfl (by show 2 * 0 + _ ≤ _; exact Nat.le_of_eq rfl) (hb hby at_53) (fun _ _ => ⟨rfl, rfl, (by decide : 8 + 0 ≤ _), (by decide : 65879 + 0 ≤ _)⟩)
        dsimp only [Pt.U, Pt.locs, Pt.cells, Pt.slots] at X75 l75 y75 z75 st75 hQ75
        subst l75 y75 z75
        obtain ⟨rfl, N75q, Qe75⟩ := hQ75
        have N75 := Fr.app N41 N75q
        have ac76 : ∀ t, Steps p.tables e below (T75.setTop (mkF m 56 #[.val (.int p1), .val (.int p2), .val (.int p3), .val (.int p4), .val (.int p5), .val (.ref b1), .val (.int (p2 &&& (65535 : Int32))), .val (.int ((p3 &&& (2147483647 : Int32)) % ((p2 &&& (65535 : Int32)) + (1 : Int32)))), .unset, .unset, .unset, .unset] [(.ref bB_37)])) t → Steps p.tables e below (s₁.setTop (entryFrame m #[(.int p1), (.int p2), (.int p3), (.int p4), (.int p5)] maxLocals)) t := fun t k => ac74 t (st75.trans k)
        obtain ⟨-, -, -, -, -, -, -, -, -, -, -, -, -, -, Vb0, -⟩ := id HB41
        have ac77 : ∀ t, Steps p.tables e below (T75.setTop (mkF m 60 #[.val (.int p1), .val (.int p2), .val (.int p3), .val (.int p4), .val (.int p5), .val (.ref b1), .val (.ref bB_37), .val (.int ((p3 &&& (2147483647 : Int32)) % ((p2 &&& (65535 : Int32)) + (1 : Int32)))), .unset, .unset, .unset, .unset] [(.ref bB_37)])) t → Steps p.tables e below (s₁.setTop (entryFrame m #[(.int p1), (.int p2), (.int p3), (.int p4), (.int p5)] maxLocals)) t := fun t k => ac76 t (by
            show Steps p.tables e below (T75.setTop (mkF m 56 #[.val (.int p1), .val (.int p2), .val (.int p3), .val (.int p4), .val (.int p5), .val (.ref b1), .val (.int (p2 &&& (65535 : Int32))), .val (.int ((p3 &&& (2147483647 : Int32)) % ((p2 &&& (65535 : Int32)) + (1 : Int32)))), .unset, .unset, .unset, .unset] [(.ref bB_37)])) _
            refine XS.astore X75.here hx rfl (hb hby at_56) rfl rfl (l' := #[.val (.int p1), .val (.int p2), .val (.int p3), .val (.int p4), .val (.int p5), .val (.ref b1), .val (.ref bB_37), .val (.int ((p3 &&& (2147483647 : Int32)) % ((p2 &&& (65535 : Int32)) + (1 : Int32)))), .unset, .unset, .unset, .unset]) rfl ?_
            show Steps p.tables e below (T75.setTop (mkF m 58 #[.val (.int p1), .val (.int p2), .val (.int p3), .val (.int p4), .val (.int p5), .val (.ref b1), .val (.ref bB_37), .val (.int ((p3 &&& (2147483647 : Int32)) % ((p2 &&& (65535 : Int32)) + (1 : Int32)))), .unset, .unset, .unset, .unset] [])) _
            refine XS.aload X75.here hx rfl (hb hby at_58) rfl rfl ?_
            exact k)
        obtain ⟨cl78, Ac78, hl78, hb78⟩ := Vb0.len
        have hlen := own_ofNat hb78
        have z14 : (16384 : Int32).toInt = 16384 := rfl
        have ac79 : ∀ t, Steps p.tables e below (T75.setTop (mkF m 65 #[.val (.int p1), .val (.int p2), .val (.int p3), .val (.int p4), .val (.int p5), .val (.ref b1), .val (.ref bB_37), .val (.int (Int32.ofNat nB_37)), .unset, .unset, .unset, .unset] [(.ref b1)])) t → Steps p.tables e below (s₁.setTop (entryFrame m #[(.int p1), (.int p2), (.int p3), (.int p4), (.int p5)] maxLocals)) t := fun t k => ac77 t (by
            show Steps p.tables e below (T75.setTop (mkF m 60 #[.val (.int p1), .val (.int p2), .val (.int p3), .val (.int p4), .val (.int p5), .val (.ref b1), .val (.ref bB_37), .val (.int ((p3 &&& (2147483647 : Int32)) % ((p2 &&& (65535 : Int32)) + (1 : Int32)))), .unset, .unset, .unset, .unset] [(.ref bB_37)])) _
            refine X75.arraylength hx (by rw [Qe75]; exact Ac78.1) (State.isArrayOf_alike hZ.alike Ac78.2.1) (g := (mkF m 60 #[.val (.int p1), .val (.int p2), .val (.int p3), .val (.int p4), .val (.int p5), .val (.ref b1), .val (.ref bB_37), .val (.int ((p3 &&& (2147483647 : Int32)) % ((p2 &&& (65535 : Int32)) + (1 : Int32)))), .unset, .unset, .unset, .unset] [(.ref bB_37)])) rfl rfl (hb hby at_60) _ ?_
            rw [hl78]
            show Steps p.tables e below (T75.setTop (mkF m 61 #[.val (.int p1), .val (.int p2), .val (.int p3), .val (.int p4), .val (.int p5), .val (.ref b1), .val (.ref bB_37), .val (.int ((p3 &&& (2147483647 : Int32)) % ((p2 &&& (65535 : Int32)) + (1 : Int32)))), .unset, .unset, .unset, .unset] [(.int (Int32.ofNat nB_37))])) _
            refine XS.istore X75.here hx rfl (hb hby at_61) rfl (l' := #[.val (.int p1), .val (.int p2), .val (.int p3), .val (.int p4), .val (.int p5), .val (.ref b1), .val (.ref bB_37), .val (.int (Int32.ofNat nB_37)), .unset, .unset, .unset, .unset]) rfl ?_
            show Steps p.tables e below (T75.setTop (mkF m 63 #[.val (.int p1), .val (.int p2), .val (.int p3), .val (.int p4), .val (.int p5), .val (.ref b1), .val (.ref bB_37), .val (.int (Int32.ofNat nB_37)), .unset, .unset, .unset, .unset] [])) _
            refine XS.aload X75.here hx rfl (hb hby at_63) rfl rfl ?_
            exact k)
        obtain ⟨cq80, kq80, q80a, q80b, q80c⟩ := isOf hZ Qe75 HB41.1
        obtain ⟨_, _, ⟨T80, L80, k80, n80⟩, -, X80, ⟨Lc80, hQ80, l80, y80, z80⟩, st80⟩ := X75.virtualBack hx (y := (⟨"com/example/termwright/termwright/TokenList", "clear", "()V"⟩ : MethodName)) (z := (⟨"com/example/termwright/termwright/TokenList", "clear", "()V"⟩ : MethodName)) hown (mvT hZ (hw _ (List.mem_of_getElem? (i := 28) rfl))) (mvT hZ (hw _ (List.mem_of_getElem? (i := 29) rfl))) (notFace_of_selects (args := #[]) (mvT hZ (hw _ (List.mem_of_getElem? (i := 31) rfl)))) (mvT hZ (hw _ (List.mem_of_getElem? (i := 31) rfl))) (mvT hZ (hw _ (List.mem_of_getElem? (i := 30) rfl))) (by decide) (backOf (W := 0) (rm4n l Z a0 hw [] b1 _ _ _ _ _ _ _ _ _ _ _ _ _ _ _  T41.heap n0 Z41 HB41 g_b1 hsmall) hZ (hw _ (List.mem_of_getElem? (i := 32) rfl)) (hw _ (List.mem_of_getElem? (i := 2) rfl)) (by decide) (by decide)) q80a q80c (g := (mkF m 65 #[.val (.int p1), .val (.int p2), .val (.int p3), .val (.int p4), .val (.int p5), .val (.ref b1), .val (.ref bB_37), .val (.int (Int32.ofNat nB_37)), .unset, .unset, .unset, .unset] [(.ref b1)])) rfl (by rw [hml]; rfl) (Steps.refl _) (argsL := []) (rest := []) (lenOf pd_0 rfl) rfl (by show 2 * 0 + _ ≤ _; exact Nat.le_of_eq rfl) (hb hby at_65) (fun _ _ => ⟨rfl, Qe75, (by decide : 8 + 0 ≤ _), (by decide : 65879 + 0 ≤ _)⟩)
        dsimp only [Pt.U, Pt.locs, Pt.cells, Pt.slots] at X80 l80 y80 z80 st80 hQ80
        subst l80 y80 z80
        obtain ⟨rfl, N80q, K80q, HB80⟩ := hQ80
        have N80 := Fr.app N75 N80q
        have Ef81 := HB41.1.keep K80q
        have Z80 : n0 ≤ T80.heap.size := Nat.le_trans Z41 K80q.1
        have ac82 : ∀ t, Steps p.tables e below (T80.setTop (mkF m 68 #[.val (.int p1), .val (.int p2), .val (.int p3), .val (.int p4), .val (.int p5), .val (.ref b1), .val (.ref bB_37), .val (.int (Int32.ofNat nB_37)), .unset, .unset, .unset, .unset] [])) t → Steps p.tables e below (s₁.setTop (entryFrame m #[(.int p1), (.int p2), (.int p3), (.int p4), (.int p5)] maxLocals)) t := fun t k => ac79 t (st80.trans k)
        have hle16 : nB_37 ≤ 65535 := Nat.le_trans hsmall (by decide)
        have ac83 : ∀ t, Steps p.tables e below (T80.setTop (mkF m 70 #[.val (.int p1), .val (.int p2), .val (.int p3), .val (.int p4), .val (.int p5), .val (.ref b1), .val (.ref bB_37), .val (.int (Int32.ofNat nB_37)), .unset, .unset, .unset, .unset] [(.ref b1)])) t → Steps p.tables e below (s₁.setTop (entryFrame m #[(.int p1), (.int p2), (.int p3), (.int p4), (.int p5)] maxLocals)) t := fun t k => ac82 t (by
            show Steps p.tables e below (T80.setTop (mkF m 68 #[.val (.int p1), .val (.int p2), .val (.int p3), .val (.int p4), .val (.int p5), .val (.ref b1), .val (.ref bB_37), .val (.int (Int32.ofNat nB_37)), .unset, .unset, .unset, .unset] [])) _
            refine XS.aload X80.here hx rfl (hb hby at_68) rfl rfl ?_
            exact k)
        obtain ⟨cq84, kq84, q84a, q84b, q84c⟩ := isOf hZ rfl HB80.1
        obtain ⟨_, _, ⟨T84, L84, k84, n84⟩, -, X84, ⟨Lc84, hQ84, l84, y84, z84⟩, st84⟩ := X80.virtualBack hx (y := (⟨"com/example/termwright/termwright/TokenList", "termBytes", "()[B"⟩ : MethodName)) (z := (⟨"com/example/termwright/termwright/TokenList", "termBytes", "()[B"⟩ : MethodName)) hown (mvT hZ (hw _ (List.mem_of_getElem? (i := 23) rfl))) (mvT hZ (hw _ (List.mem_of_getElem? (i := 24) rfl))) (notFace_of_selects (args := #[]) (mvT hZ (hw _ (List.mem_of_getElem? (i := 26) rfl)))) (mvT hZ (hw _ (List.mem_of_getElem? (i := 26) rfl))) (mvT hZ (hw _ (List.mem_of_getElem? (i := 25) rfl))) (by decide) (backOf (W := 0) (rm3 l Z a0 hw [] b1 _ _ _ _ _ _ _ _ _ _ _ _ _ _ _  T80.heap n0 Z80 HB80) hZ (hw _ (List.mem_of_getElem? (i := 27) rfl)) (hw _ (List.mem_of_getElem? (i := 2) rfl)) (by decide) (by decide)) q84a q84c (g := (mkF m 70 #[.val (.int p1), .val (.int p2), .val (.int p3), .val (.int p4), .val (.int p5), .val (.ref b1), .val (.ref bB_37), .val (.int (Int32.ofNat nB_37)), .unset, .unset, .unset, .unset] [(.ref b1)])) rfl (by rw [hml]; rfl) (Steps.refl _) (argsL := []) (rest := []) (lenOf pd_1 rfl) rfl (by show 2 * 0 + _ ≤ _; exact Nat.le_of_eq rfl) (hb hby at_70) (fun _ _ => ⟨rfl, rfl, (by decide : 8 + 0 ≤ _), (by decide : 65879 + 0 ≤ _)⟩)
        dsimp only [Pt.U, Pt.locs, Pt.cells, Pt.slots] at X84 l84 y84 z84 st84 hQ84
        subst l84 y84 z84
        obtain ⟨rfl, N84q, Qe84⟩ := hQ84
        have N84 := Fr.app N80 N84q
        have ac85 : ∀ t, Steps p.tables e below (T84.setTop (mkF m 73 #[.val (.int p1), .val (.int p2), .val (.int p3), .val (.int p4), .val (.int p5), .val (.ref b1), .val (.ref bB_37), .val (.int (Int32.ofNat nB_37)), .unset, .unset, .unset, .unset] [(.ref bB_37)])) t → Steps p.tables e below (s₁.setTop (entryFrame m #[(.int p1), (.int p2), (.int p3), (.int p4), (.int p5)] maxLocals)) t := fun t k => ac83 t (st84.trans k)
        have ac86 : ∀ t, Steps p.tables e below (T84.setTop (mkF m 77 #[.val (.int p1), .val (.int p2), .val (.int p3), .val (.int p4), .val (.int p5), .val (.ref b1), .val (.ref bB_37), .val (.int (Int32.ofNat nB_37)), .val (.ref bB_37), .unset, .unset, .unset] [(.ref b1)])) t → Steps p.tables e below (s₁.setTop (entryFrame m #[(.int p1), (.int p2), (.int p3), (.int p4), (.int p5)] maxLocals)) t := fun t k => ac85 t (by
            show Steps p.tables e below (T84.setTop (mkF m 73 #[.val (.int p1), .val (.int p2), .val (.int p3), .val (.int p4), .val (.int p5), .val (.ref b1), .val (.ref bB_37), .val (.int (Int32.ofNat nB_37)), .unset, .unset, .unset, .unset] [(.ref bB_37)])) _
            refine XS.astore X84.here hx rfl (hb hby at_73) rfl rfl (l' := #[.val (.int p1), .val (.int p2), .val (.int p3), .val (.int p4), .val (.int p5), .val (.ref b1), .val (.ref bB_37), .val (.int (Int32.ofNat nB_37)), .val (.ref bB_37), .unset, .unset, .unset]) rfl ?_
            show Steps p.tables e below (T84.setTop (mkF m 75 #[.val (.int p1), .val (.int p2), .val (.int p3), .val (.int p4), .val (.int p5), .val (.ref b1), .val (.ref bB_37), .val (.int (Int32.ofNat nB_37)), .val (.ref bB_37), .unset, .unset, .unset] [])) _
            refine XS.aload X84.here hx rfl (hb hby at_75) rfl rfl ?_
            exact k)
        obtain ⟨cq87, kq87, q87a, q87b, q87c⟩ := isOf hZ Qe84 HB80.1
        obtain ⟨_, _, ⟨T87, L87, k87, n87⟩, -, X87, ⟨Lc87, hQ87, l87, y87, z87⟩, st87⟩ := X84.virtualBack hx (y := (⟨"com/example/termwright/termwright/TokenList", "size", "()I"⟩ : MethodName)) (z := (⟨"com/example/termwright/termwright/TokenList", "size", "()I"⟩ : MethodName)) hown (mvT hZ (hw _ (List.mem_of_getElem? (i := 37) rfl))) (mvT hZ (hw _ (List.mem_of_getElem? (i := 38) rfl))) (notFace_of_selects (args := #[]) (mvT hZ (hw _ (List.mem_of_getElem? (i := 40) rfl)))) (mvT hZ (hw _ (List.mem_of_getElem? (i := 40) rfl))) (mvT hZ (hw _ (List.mem_of_getElem? (i := 39) rfl))) (by decide) (backOf (W := 0) (rm5 l Z a0 hw [] b1 _ _ _ _ _ _ _ _ _ _ _ _ _ _ _  T80.heap n0 Z80 HB80) hZ (hw _ (List.mem_of_getElem? (i := 41) rfl)) (hw _ (List.mem_of_getElem? (i := 2) rfl)) (by decide) (by decide)) q87a q87c (g := (mkF m 77 #[.val (.int p1), .val (.int p2), .val (.int p3), .val (.int p4), .val (.int p5), .val (.ref b1), .val (.ref bB_37), .val (.int (Int32.ofNat nB_37)), .val (.ref bB_37), .unset, .unset, .unset] [(.ref b1)])) rfl (by rw [hml]; rfl) (Steps.refl _) (argsL := []) (rest := []) (lenOf pd_2 rfl) rfl (by show 2 * 0 + _ ≤ _; exact Nat.le_of_eq rfl) (hb hby at_77) (fun _ _ => ⟨rfl, Qe84, (by decide : 8 + 0 ≤ _), (by decide : 65879 + 0 ≤ _)⟩)
        dsimp only [Pt.U, Pt.locs, Pt.cells, Pt.slots] at X87 l87 y87 z87 st87 hQ87
        subst l87 y87 z87
        obtain ⟨rfl, N87q, Qe87⟩ := hQ87
        have N87 := Fr.app N84 N87q
        have ac88 : ∀ t, Steps p.tables e below (T87.setTop (mkF m 80 #[.val (.int p1), .val (.int p2), .val (.int p3), .val (.int p4), .val (.int p5), .val (.ref b1), .val (.ref bB_37), .val (.int (Int32.ofNat nB_37)), .val (.ref bB_37), .unset, .unset, .unset] [(.int (0 : Int32))])) t → Steps p.tables e below (s₁.setTop (entryFrame m #[(.int p1), (.int p2), (.int p3), (.int p4), (.int p5)] maxLocals)) t := fun t k => ac86 t (st87.trans k)
        obtain ⟨-, -, -, -, -, -, -, -, -, -, -, -, -, -, Vb1, -⟩ := id HB80
        have ac89 : ∀ t, Steps p.tables e below (T87.setTop (mkF m 148 #[.val (.int p1), .val (.int p2), .val (.int p3), .val (.int p4), .val (.int p5), .val (.ref b1), .val (.ref bB_37), .val (.int (Int32.ofNat nB_37)), .val (.ref bB_37), .val (.int (1 : Int32)), .unset, .unset] [(.ref bB_37), (.int (p5 &&& (2147483647 : Int32)))])) t → Steps p.tables e below (s₁.setTop (entryFrame m #[(.int p1), (.int p2), (.int p3), (.int p4), (.int p5)] maxLocals)) t := fun t k => ac88 t (by
            show Steps p.tables e below (T87.setTop (mkF m 80 #[.val (.int p1), .val (.int p2), .val (.int p3), .val (.int p4), .val (.int p5), .val (.ref b1), .val (.ref bB_37), .val (.int (Int32.ofNat nB_37)), .val (.ref bB_37), .unset, .unset, .unset] [(.int (0 : Int32))])) _
            refine XS.ifNo X87.here hx rfl (hb hby at_80) rfl ((if0 _ _).trans (teq rfl).2) ?_
            show Steps p.tables e below (T87.setTop (mkF m 83 #[.val (.int p1), .val (.int p2), .val (.int p3), .val (.int p4), .val (.int p5), .val (.ref b1), .val (.ref bB_37), .val (.int (Int32.ofNat nB_37)), .val (.ref bB_37), .unset, .unset, .unset] [])) _
            refine XS.iconst X87.here hx rfl (hb hby at_83) ?_
            show Steps p.tables e below (T87.setTop (mkF m 84 #[.val (.int p1), .val (.int p2), .val (.int p3), .val (.int p4), .val (.int p5), .val (.ref b1), .val (.ref bB_37), .val (.int (Int32.ofNat nB_37)), .val (.ref bB_37), .unset, .unset, .unset] [(.int (1 : Int32))])) _
            refine XS.goto X87.here hx rfl (pc0 := 84) (pc' := 88) rfl (hb hby at_84) (by decide) (by decide) ?_
            show Steps p.tables e below (T87.setTop (mkF m 88 #[.val (.int p1), .val (.int p2), .val (.int p3), .val (.int p4), .val (.int p5), .val (.ref b1), .val (.ref bB_37), .val (.int (Int32.ofNat nB_37)), .val (.ref bB_37), .unset, .unset, .unset] [(.int (1 : Int32))])) _
            refine XS.istore X87.here hx rfl (hb hby at_88) rfl (l' := #[.val (.int p1), .val (.int p2), .val (.int p3), .val (.int p4), .val (.int p5), .val (.ref b1), .val (.ref bB_37), .val (.int (Int32.ofNat nB_37)), .val (.ref bB_37), .val (.int (1 : Int32)), .unset, .unset]) rfl ?_
            show Steps p.tables e below (T87.setTop (mkF m 90 #[.val (.int p1), .val (.int p2), .val (.int p3), .val (.int p4), .val (.int p5), .val (.ref b1), .val (.ref bB_37), .val (.int (Int32.ofNat nB_37)), .val (.ref bB_37), .val (.int (1 : Int32)), .unset, .unset] [])) _
            refine XS.iload X87.here hx rfl (hb hby at_90) rfl ?_
            show Steps p.tables e below (T87.setTop (mkF m 92 #[.val (.int p1), .val (.int p2), .val (.int p3), .val (.int p4), .val (.int p5), .val (.ref b1), .val (.ref bB_37), .val (.int (Int32.ofNat nB_37)), .val (.ref bB_37), .val (.int (1 : Int32)), .unset, .unset] [(.int (Int32.ofNat nB_37))])) _
            refine XS.sipush X87.here hx rfl (hb hby at_92) ?_
            show Steps p.tables e below (T87.setTop (mkF m 95 #[.val (.int p1), .val (.int p2), .val (.int p3), .val (.int p4), .val (.int p5), .val (.ref b1), .val (.ref bB_37), .val (.int (Int32.ofNat nB_37)), .val (.ref bB_37), .val (.int (1 : Int32)), .unset, .unset] [(.int (16384 : Int32)), (.int (Int32.ofNat nB_37))])) _
            refine XS.icmpYes X87.here hx rfl (pc0 := 95) (pc' := 122) rfl (hb hby at_95) rfl (flt (own_nlt_of (by omega))).2.2.2 (by decide) (by decide) ?_
            show Steps p.tables e below (T87.setTop (mkF m 122 #[.val (.int p1), .val (.int p2), .val (.int p3), .val (.int p4), .val (.int p5), .val (.ref b1), .val (.ref bB_37), .val (.int (Int32.ofNat nB_37)), .val (.ref bB_37), .val (.int (1 : Int32)), .unset, .unset] [])) _
            refine XS.iload X87.here hx rfl (hb hby at_122) rfl ?_
            show Steps p.tables e below (T87.setTop (mkF m 124 #[.val (.int p1), .val (.int p2), .val (.int p3), .val (.int p4), .val (.int p5), .val (.ref b1), .val (.ref bB_37), .val (.int (Int32.ofNat nB_37)), .val (.ref bB_37), .val (.int (1 : Int32)), .unset, .unset] [(.int (1 : Int32))])) _
            refine XS.ifNo X87.here hx rfl (hb hby at_124) rfl ((if0 _ _).trans (feq (by decide)).1) ?_
            show Steps p.tables e below (T87.setTop (mkF m 127 #[.val (.int p1), .val (.int p2), .val (.int p3), .val (.int p4), .val (.int p5), .val (.ref b1), .val (.ref bB_37), .val (.int (Int32.ofNat nB_37)), .val (.ref bB_37), .val (.int (1 : Int32)), .unset, .unset] [])) _
            refine XS.aload X87.here hx rfl (hb hby at_127) rfl rfl ?_
            show Steps p.tables e below (T87.setTop (mkF m 129 #[.val (.int p1), .val (.int p2), .val (.int p3), .val (.int p4), .val (.int p5), .val (.ref b1), .val (.ref bB_37), .val (.int (Int32.ofNat nB_37)), .val (.ref bB_37), .val (.int (1 : Int32)), .unset, .unset] [(.ref bB_37)])) _
            refine XS.aload X87.here hx rfl (hb hby at_129) rfl rfl ?_
            show Steps p.tables e below (T87.setTop (mkF m 131 #[.val (.int p1), .val (.int p2), .val (.int p3), .val (.int p4), .val (.int p5), .val (.ref b1), .val (.ref bB_37), .val (.int (Int32.ofNat nB_37)), .val (.ref bB_37), .val (.int (1 : Int32)), .unset, .unset] [(.ref bB_37), (.ref bB_37)])) _
            refine Jvm.RoadKit.acmp (g := (mkF m 131 #[.val (.int p1), .val (.int p2), .val (.int p3), .val (.int p4), .val (.int p5), .val (.ref b1), .val (.ref bB_37), .val (.int (Int32.ofNat nB_37)), .val (.ref bB_37), .val (.int (1 : Int32)), .unset, .unset] [(.ref bB_37), (.ref bB_37)])) X87 hx rfl rfl rfl (pc0 := 131) (pc' := 134) (same := true) rfl (hb hby at_131) rfl (decide_eq_true rfl) (by decide) (by decide) ?_
            show Steps p.tables e below (T87.setTop (mkF m 134 #[.val (.int p1), .val (.int p2), .val (.int p3), .val (.int p4), .val (.int p5), .val (.ref b1), .val (.ref bB_37), .val (.int (Int32.ofNat nB_37)), .val (.ref bB_37), .val (.int (1 : Int32)), .unset, .unset] [])) _
            refine XS.iconst X87.here hx rfl (hb hby at_134) ?_
            show Steps p.tables e below (T87.setTop (mkF m 135 #[.val (.int p1), .val (.int p2), .val (.int p3), .val (.int p4), .val (.int p5), .val (.ref b1), .val (.ref bB_37), .val (.int (Int32.ofNat nB_37)), .val (.ref bB_37), .val (.int (1 : Int32)), .unset, .unset] [(.int (1 : Int32))])) _
            refine XS.goto X87.here hx rfl (pc0 := 135) (pc' := 139) rfl (hb hby at_135) (by decide) (by decide) ?_
            show Steps p.tables e below (T87.setTop (mkF m 139 #[.val (.int p1), .val (.int p2), .val (.int p3), .val (.int p4), .val (.int p5), .val (.ref b1), .val (.ref bB_37), .val (.int (Int32.ofNat nB_37)), .val (.ref bB_37), .val (.int (1 : Int32)), .unset, .unset] [(.int (1 : Int32))])) _
            refine XS.istore X87.here hx rfl (hb hby at_139) rfl (l' := #[.val (.int p1), .val (.int p2), .val (.int p3), .val (.int p4), .val (.int p5), .val (.ref b1), .val (.ref bB_37), .val (.int (Int32.ofNat nB_37)), .val (.ref bB_37), .val (.int (1 : Int32)), .unset, .unset]) rfl ?_
            show Steps p.tables e below (T87.setTop (mkF m 141 #[.val (.int p1), .val (.int p2), .val (.int p3), .val (.int p4), .val (.int p5), .val (.ref b1), .val (.ref bB_37), .val (.int (Int32.ofNat nB_37)), .val (.ref bB_37), .val (.int (1 : Int32)), .unset, .unset] [])) _
            refine XS.iload X87.here hx rfl (hb hby at_141) rfl ?_
            show Steps p.tables e below (T87.setTop (mkF m 143 #[.val (.int p1), .val (.int p2), .val (.int p3), .val (.int p4), .val (.int p5), .val (.ref b1), .val (.ref bB_37), .val (.int (Int32.ofNat nB_37)), .val (.ref bB_37), .val (.int (1 : Int32)), .unset, .unset] [(.int p5)])) _
            refine X87.ldcInt hx hown (mvT hZ (hw _ (List.mem_of_getElem? (i := 42) rfl))) (g := (mkF m 143 #[.val (.int p1), .val (.int p2), .val (.int p3), .val (.int p4), .val (.int p5), .val (.ref b1), .val (.ref bB_37), .val (.int (Int32.ofNat nB_37)), .val (.ref bB_37), .val (.int (1 : Int32)), .unset, .unset] [(.int p5)])) rfl (hb hby at_143) _ ?_
            show Steps p.tables e below (T87.setTop (mkF m 145 #[.val (.int p1), .val (.int p2), .val (.int p3), .val (.int p4), .val (.int p5), .val (.ref b1), .val (.ref bB_37), .val (.int (Int32.ofNat nB_37)), .val (.ref bB_37), .val (.int (1 : Int32)), .unset, .unset] [(.int (2147483647 : Int32)), (.int p5)])) _
            refine XS.iand X87.here hx rfl (hb hby at_145) rfl ?_
            show Steps p.tables e below (T87.setTop (mkF m 146 #[.val (.int p1), .val (.int p2), .val (.int p3), .val (.int p4), .val (.int p5), .val (.ref b1), .val (.ref bB_37), .val (.int (Int32.ofNat nB_37)), .val (.ref bB_37), .val (.int (1 : Int32)), .unset, .unset] [(.int (p5 &&& (2147483647 : Int32)))])) _
            refine XS.aload X87.here hx rfl (hb hby at_146) rfl rfl ?_
            exact k)
        obtain ⟨cl90, Ac90, hl90, hb90⟩ := Vb1.len
        have hlen2 := own_ofNat hb90
        have hp1 := own_p1 hlen2 hle16
        have hr2 := own_remle (p := p5) hp1
        have hs2 := own_sub0 nB_37 (by omega)
        have ac91 : ∀ t, Steps p.tables e below (T87.setTop (mkF m 162 #[.val (.int p1), .val (.int p2), .val (.int p3), .val (.int p4), .val (.int p5), .val (.ref b1), .val (.ref bB_37), .val (.int (Int32.ofNat nB_37)), .val (.ref bB_37), .val (.int (1 : Int32)), .val (.int ((p5 &&& (2147483647 : Int32)) % ((Int32.ofNat nB_37) + (1 : Int32)))), .unset] [(.int ((p5 &&& (2147483647 : Int32)) % ((Int32.ofNat nB_37) + (1 : Int32)))), (.int (p4 ^^^ (-1 : Int32))), (.int p4), (.ref b1)])) t → Steps p.tables e below (s₁.setTop (entryFrame m #[(.int p1), (.int p2), (.int p3), (.int p4), (.int p5)] maxLocals)) t := fun t k => ac89 t (by
            show Steps p.tables e below (T87.setTop (mkF m 148 #[.val (.int p1), .val (.int p2), .val (.int p3), .val (.int p4), .val (.int p5), .val (.ref b1), .val (.ref bB_37), .val (.int (Int32.ofNat nB_37)), .val (.ref bB_37), .val (.int (1 : Int32)), .unset, .unset] [(.ref bB_37), (.int (p5 &&& (2147483647 : Int32)))])) _
            refine X87.arraylength hx (by rw [Qe87]; exact Ac90.1) (State.isArrayOf_alike hZ.alike Ac90.2.1) (g := (mkF m 148 #[.val (.int p1), .val (.int p2), .val (.int p3), .val (.int p4), .val (.int p5), .val (.ref b1), .val (.ref bB_37), .val (.int (Int32.ofNat nB_37)), .val (.ref bB_37), .val (.int (1 : Int32)), .unset, .unset] [(.ref bB_37), (.int (p5 &&& (2147483647 : Int32)))])) rfl rfl (hb hby at_148) _ ?_
            rw [hl90]
            show Steps p.tables e below (T87.setTop (mkF m 149 #[.val (.int p1), .val (.int p2), .val (.int p3), .val (.int p4), .val (.int p5), .val (.ref b1), .val (.ref bB_37), .val (.int (Int32.ofNat nB_37)), .val (.ref bB_37), .val (.int (1 : Int32)), .unset, .unset] [(.int (Int32.ofNat nB_37)), (.int (p5 &&& (2147483647 : Int32)))])) _
            refine XS.iconst X87.here hx rfl (hb hby at_149) ?_
            show Steps p.tables e below (T87.setTop (mkF m 150 #[.val (.int p1), .val (.int p2), .val (.int p3), .val (.int p4), .val (.int p5), .val (.ref b1), .val (.ref bB_37), .val (.int (Int32.ofNat nB_37)), .val (.ref bB_37), .val (.int (1 : Int32)), .unset, .unset] [(.int (1 : Int32)), (.int (Int32.ofNat nB_37)), (.int (p5 &&& (2147483647 : Int32)))])) _
            refine XS.iadd X87.here hx rfl (hb hby at_150) rfl ?_
            show Steps p.tables e below (T87.setTop (mkF m 151 #[.val (.int p1), .val (.int p2), .val (.int p3), .val (.int p4), .val (.int p5), .val (.ref b1), .val (.ref bB_37), .val (.int (Int32.ofNat nB_37)), .val (.ref bB_37), .val (.int (1 : Int32)), .unset, .unset] [(.int ((Int32.ofNat nB_37) + (1 : Int32))), (.int (p5 &&& (2147483647 : Int32)))])) _
            refine iremM X87 hx rfl (hb hby at_151) rfl (own_nz hp1) ?_
            show Steps p.tables e below (T87.setTop (mkF m 152 #[.val (.int p1), .val (.int p2), .val (.int p3), .val (.int p4), .val (.int p5), .val (.ref b1), .val (.ref bB_37), .val (.int (Int32.ofNat nB_37)), .val (.ref bB_37), .val (.int (1 : Int32)), .unset, .unset] [(.int ((p5 &&& (2147483647 : Int32)) % ((Int32.ofNat nB_37) + (1 : Int32))))])) _
            refine XS.istore X87.here hx rfl (hb hby at_152) rfl (l' := #[.val (.int p1), .val (.int p2), .val (.int p3), .val (.int p4), .val (.int p5), .val (.ref b1), .val (.ref bB_37), .val (.int (Int32.ofNat nB_37)), .val (.ref bB_37), .val (.int (1 : Int32)), .val (.int ((p5 &&& (2147483647 : Int32)) % ((Int32.ofNat nB_37) + (1 : Int32)))), .unset]) rfl ?_
            show Steps p.tables e below (T87.setTop (mkF m 154 #[.val (.int p1), .val (.int p2), .val (.int p3), .val (.int p4), .val (.int p5), .val (.ref b1), .val (.ref bB_37), .val (.int (Int32.ofNat nB_37)), .val (.ref bB_37), .val (.int (1 : Int32)), .val (.int ((p5 &&& (2147483647 : Int32)) % ((Int32.ofNat nB_37) + (1 : Int32)))), .unset] [])) _
            refine XS.aload X87.here hx rfl (hb hby at_154) rfl rfl ?_
            show Steps p.tables e below (T87.setTop (mkF m 156 #[.val (.int p1), .val (.int p2), .val (.int p3), .val (.int p4), .val (.int p5), .val (.ref b1), .val (.ref bB_37), .val (.int (Int32.ofNat nB_37)), .val (.ref bB_37), .val (.int (1 : Int32)), .val (.int ((p5 &&& (2147483647 : Int32)) % ((Int32.ofNat nB_37) + (1 : Int32)))), .unset] [(.ref b1)])) _
            refine XS.iloadN X87.here hx rfl (hb hby at_156) rfl ?_
            show Steps p.tables e below (T87.setTop (mkF m 157 #[.val (.int p1), .val (.int p2), .val (.int p3), .val (.int p4), .val (.int p5), .val (.ref b1), .val (.ref bB_37), .val (.int (Int32.ofNat nB_37)), .val (.ref bB_37), .val (.int (1 : Int32)), .val (.int ((p5 &&& (2147483647 : Int32)) % ((Int32.ofNat nB_37) + (1 : Int32)))), .unset] [(.int p4), (.ref b1)])) _
            refine XS.iloadN X87.here hx rfl (hb hby at_157) rfl ?_
            show Steps p.tables e below (T87.setTop (mkF m 158 #[.val (.int p1), .val (.int p2), .val (.int p3), .val (.int p4), .val (.int p5), .val (.ref b1), .val (.ref bB_37), .val (.int (Int32.ofNat nB_37)), .val (.ref bB_37), .val (.int (1 : Int32)), .val (.int ((p5 &&& (2147483647 : Int32)) % ((Int32.ofNat nB_37) + (1 : Int32)))), .unset] [(.int p4), (.int p4), (.ref b1)])) _
            refine XS.iconst X87.here hx rfl (hb hby at_158) ?_
            show Steps p.tables e below (T87.setTop (mkF m 159 #[.val (.int p1), .val (.int p2), .val (.int p3), .val (.int p4), .val (.int p5), .val (.ref b1), .val (.ref bB_37), .val (.int (Int32.ofNat nB_37)), .val (.ref bB_37), .val (.int (1 : Int32)), .val (.int ((p5 &&& (2147483647 : Int32)) % ((Int32.ofNat nB_37) + (1 : Int32)))), .unset] [(.int (-1 : Int32)), (.int p4), (.int p4), (.ref b1)])) _
            refine XS.ixor X87.here hx rfl (hb hby at_159) rfl ?_
            show Steps p.tables e below (T87.setTop (mkF m 160 #[.val (.int p1), .val (.int p2), .val (.int p3), .val (.int p4), .val (.int p5), .val (.ref b1), .val (.ref bB_37), .val (.int (Int32.ofNat nB_37)), .val (.ref bB_37), .val (.int (1 : Int32)), .val (.int ((p5 &&& (2147483647 : Int32)) % ((Int32.ofNat nB_37) + (1 : Int32)))), .unset] [(.int (p4 ^^^ (-1 : Int32))), (.int p4), (.ref b1)])) _
            refine XS.iload X87.here hx rfl (hb hby at_160) rfl ?_
            exact k)
        obtain ⟨cq92, kq92, q92a, q92b, q92c⟩ := isOf hZ Qe87 HB80.1
        obtain ⟨_, _, ⟨T92, L92, k92, n92⟩, -, X92, ⟨Lc92, hQ92, l92, y92, z92⟩, st92⟩ := X87.virtualBack hx (y := (⟨"com/example/termwright/termwright/TokenList", "add", "(III)I"⟩ : MethodName)) (z := (⟨"com/example/termwright/termwright/TokenList", "add", "(III)I"⟩ : MethodName)) hown (mvT hZ (hw _ (List.mem_of_getElem? (i := 43) rfl))) (mvT hZ (hw _ (List.mem_of_getElem? (i := 44) rfl))) (notFace_of_selects (args := #[]) (mvT hZ (hw _ (List.mem_of_getElem? (i := 46) rfl)))) (mvT hZ (hw _ (List.mem_of_getElem? (i := 46) rfl))) (mvT hZ (hw _ (List.mem_of_getElem? (i := 45) rfl))) (by decide) (backOf (W := 0) (rm6n l Z a0 hw [] b1 p4 (p4 ^^^ (-1 : Int32)) ((p5 &&& (2147483647 : Int32)) % ((Int32.ofNat nB_37) + (1 : Int32))) _ _ _ _ _ _ _ _ _ _ _ _ _  T80.heap n0 Z80 HB80 g_b1 (own_nlt_of (by omega))) hZ (hw _ (List.mem_of_getElem? (i := 47) rfl)) (hw _ (List.mem_of_getElem? (i := 2) rfl)) (by decide) (by decide)) q92a q92c (g := (mkF m 162 #[.val (.int p1), .val (.int p2), .val (.int p3), .val (.int p4), .val (.int p5), .val (.ref b1), .val (.ref bB_37), .val (.int (Int32.ofNat nB_37)), .val (.ref bB_37), .val (.int (1 : Int32)), .val (.int ((p5 &&& (2147483647 : Int32)) % ((Int32.ofNat nB_37) + (1 : Int32)))), .unset] [(.int ((p5 &&& (2147483647 : Int32)) % ((Int32.ofNat nB_37) + (1 : Int32)))), (.int (p4 ^^^ (-1 : Int32))), (.int p4), (.ref b1)])) rfl (by rw [hml]; rfl) (Steps.refl _) (argsL := [(.int p4), (.int (p4 ^^^ (-1 : Int32))), (.int ((p5 &&& (2147483647 : Int32)) % ((Int32.ofNat nB_37) + (1 : Int32))))]) (rest := []) (lenOf pd_3 rfl) rfl (by show 2 * 0 + _ ≤ _; exact Nat.le_of_eq rfl) (hb hby at_162) (fun _ _ => ⟨rfl, Qe87, (by decide : 8 + 0 ≤ _), (by decide : 65879 + 0 ≤ _)⟩)
        dsimp only [Pt.U, Pt.locs, Pt.cells, Pt.slots] at X92 l92 y92 z92 st92 hQ92
        subst l92 y92 z92
        obtain ⟨f1_92, f2_92, f3_92, f4_92, f5_92, rfl, N92q, K92q, hf92, HB92⟩ := hQ92
        have N92 := Fr.app N87 N92q
        have Ef93 := HB80.1.keep K92q
        have Z92 : n0 ≤ T92.heap.size := Nat.le_trans Z80 K92q.1
        have ac94 : ∀ t, Steps p.tables e below (T92.setTop (mkF m 165 #[.val (.int p1), .val (.int p2), .val (.int p3), .val (.int p4), .val (.int p5), .val (.ref b1), .val (.ref bB_37), .val (.int (Int32.ofNat nB_37)), .val (.ref bB_37), .val (.int (1 : Int32)), .val (.int ((p5 &&& (2147483647 : Int32)) % ((Int32.ofNat nB_37) + (1 : Int32)))), .unset] [(.int (0 : Int32))])) t → Steps p.tables e below (s₁.setTop (entryFrame m #[(.int p1), (.int p2), (.int p3), (.int p4), (.int p5)] maxLocals)) t := fun t k => ac91 t (st92.trans k)
        have ac95 : ∀ t, Steps p.tables e below (T92.setTop (mkF m 179 #[.val (.int p1), .val (.int p2), .val (.int p3), .val (.int p4), .val (.int p5), .val (.ref b1), .val (.ref bB_37), .val (.int (Int32.ofNat nB_37)), .val (.ref bB_37), .val (.int (1 : Int32)), .val (.int ((p5 &&& (2147483647 : Int32)) % ((Int32.ofNat nB_37) + (1 : Int32)))), .val (.int (0 : Int32))] [(.ref b1)])) t → Steps p.tables e below (s₁.setTop (entryFrame m #[(.int p1), (.int p2), (.int p3), (.int p4), (.int p5)] maxLocals)) t := fun t k => ac94 t (by
            show Steps p.tables e below (T92.setTop (mkF m 165 #[.val (.int p1), .val (.int p2), .val (.int p3), .val (.int p4), .val (.int p5), .val (.ref b1), .val (.ref bB_37), .val (.int (Int32.ofNat nB_37)), .val (.ref bB_37), .val (.int (1 : Int32)), .val (.int ((p5 &&& (2147483647 : Int32)) % ((Int32.ofNat nB_37) + (1 : Int32)))), .unset] [(.int (0 : Int32))])) _
            refine XS.istore X92.here hx rfl (hb hby at_165) rfl (l' := #[.val (.int p1), .val (.int p2), .val (.int p3), .val (.int p4), .val (.int p5), .val (.ref b1), .val (.ref bB_37), .val (.int (Int32.ofNat nB_37)), .val (.ref bB_37), .val (.int (1 : Int32)), .val (.int ((p5 &&& (2147483647 : Int32)) % ((Int32.ofNat nB_37) + (1 : Int32)))), .val (.int (0 : Int32))]) rfl ?_
            show Steps p.tables e below (T92.setTop (mkF m 167 #[.val (.int p1), .val (.int p2), .val (.int p3), .val (.int p4), .val (.int p5), .val (.ref b1), .val (.ref bB_37), .val (.int (Int32.ofNat nB_37)), .val (.ref bB_37), .val (.int (1 : Int32)), .val (.int ((p5 &&& (2147483647 : Int32)) % ((Int32.ofNat nB_37) + (1 : Int32)))), .val (.int (0 : Int32))] [])) _
            refine XS.iload X92.here hx rfl (hb hby at_167) rfl ?_
            show Steps p.tables e below (T92.setTop (mkF m 169 #[.val (.int p1), .val (.int p2), .val (.int p3), .val (.int p4), .val (.int p5), .val (.ref b1), .val (.ref bB_37), .val (.int (Int32.ofNat nB_37)), .val (.ref bB_37), .val (.int (1 : Int32)), .val (.int ((p5 &&& (2147483647 : Int32)) % ((Int32.ofNat nB_37) + (1 : Int32)))), .val (.int (0 : Int32))] [(.int (1 : Int32))])) _
            refine XS.ifNo X92.here hx rfl (hb hby at_169) rfl ((if0 _ _).trans (feq (by decide)).1) ?_
            show Steps p.tables e below (T92.setTop (mkF m 172 #[.val (.int p1), .val (.int p2), .val (.int p3), .val (.int p4), .val (.int p5), .val (.ref b1), .val (.ref bB_37), .val (.int (Int32.ofNat nB_37)), .val (.ref bB_37), .val (.int (1 : Int32)), .val (.int ((p5 &&& (2147483647 : Int32)) % ((Int32.ofNat nB_37) + (1 : Int32)))), .val (.int (0 : Int32))] [])) _
            refine XS.iload X92.here hx rfl (hb hby at_172) rfl ?_
            show Steps p.tables e below (T92.setTop (mkF m 174 #[.val (.int p1), .val (.int p2), .val (.int p3), .val (.int p4), .val (.int p5), .val (.ref b1), .val (.ref bB_37), .val (.int (Int32.ofNat nB_37)), .val (.ref bB_37), .val (.int (1 : Int32)), .val (.int ((p5 &&& (2147483647 : Int32)) % ((Int32.ofNat nB_37) + (1 : Int32)))), .val (.int (0 : Int32))] [(.int (0 : Int32))])) _
            refine XS.ifNo X92.here hx rfl (hb hby at_174) rfl ((if0 _ _).trans (teq rfl).2) ?_
            show Steps p.tables e below (T92.setTop (mkF m 177 #[.val (.int p1), .val (.int p2), .val (.int p3), .val (.int p4), .val (.int p5), .val (.ref b1), .val (.ref bB_37), .val (.int (Int32.ofNat nB_37)), .val (.ref bB_37), .val (.int (1 : Int32)), .val (.int ((p5 &&& (2147483647 : Int32)) % ((Int32.ofNat nB_37) + (1 : Int32)))), .val (.int (0 : Int32))] [])) _
            refine XS.aload X92.here hx rfl (hb hby at_177) rfl rfl ?_
            exact k)
        obtain ⟨cq96, kq96, q96a, q96b, q96c⟩ := isOf hZ rfl HB92.1
        obtain ⟨_, _, ⟨T96, L96, k96, n96⟩, -, X96, ⟨Lc96, hQ96, l96, y96, z96⟩, st96⟩ := X92.virtualBack hx (y := (⟨"com/example/termwright/termwright/TokenList", "termBytes", "()[B"⟩ : MethodName)) (z := (⟨"com/example/termwright/termwright/TokenList", "termBytes", "()[B"⟩ : MethodName)) hown (mvT hZ (hw _ (List.mem_of_getElem? (i := 23) rfl))) (mvT hZ (hw _ (List.mem_of_getElem? (i := 24) rfl))) (notFace_of_selects (args := #[]) (mvT hZ (hw _ (List.mem_of_getElem? (i := 26) rfl)))) (mvT hZ (hw _ (List.mem_of_getElem? (i := 26) rfl))) (mvT hZ (hw _ (List.mem_of_getElem? (i := 25) rfl))) (by decide) (backOf (W := 0) (rm3 l Z a0 hw [] b1 _ _ _ _ _ _ _ _ _ _ _ _ _ _ _  T92.heap n0 Z92 HB92) hZ (hw _ (List.mem_of_getElem? (i := 27) rfl)) (hw _ (List.mem_of_getElem? (i := 2) rfl)) (by decide) (by decide)) q96a q96c (g := (mkF m 179 #[.val (.int p1), .val (.int p2), .val (.int p3), .val (.int p4), .val (.int p5), .val (.ref b1), .val (.ref bB_37), .val (.int (Int32.ofNat nB_37)), .val (.ref bB_37), .val (.int (1 : Int32)), .val (.int ((p5 &&& (2147483647 : Int32)) % ((Int32.ofNat nB_37) + (1 : Int32)))), .val (.int (0 : Int32))] [(.ref b1)])) rfl (by rw [hml]; rfl) (Steps.refl _) (argsL := []) (rest := []) (lenOf pd_1 rfl) rfl (by show 2 * 0 + _ ≤ _; exact Nat.le_of_eq rfl) (hb hby at_179) (fun _ _ => ⟨rfl, rfl, (by decide : 8 + 0 ≤ _), (by decide : 65879 + 0 ≤ _)⟩)
        dsimp only [Pt.U, Pt.locs, Pt.cells, Pt.slots] at X96 l96 y96 z96 st96 hQ96
        subst l96 y96 z96
        obtain ⟨rfl, N96q, Qe96⟩ := hQ96
        have N96 := Fr.app N92 N96q
        have ac97 : ∀ t, Steps p.tables e below (T96.setTop (mkF m 182 #[.val (.int p1), .val (.int p2), .val (.int p3), .val (.int p4), .val (.int p5), .val (.ref b1), .val (.ref bB_37), .val (.int (Int32.ofNat nB_37)), .val (.ref bB_37), .val (.int (1 : Int32)), .val (.int ((p5 &&& (2147483647 : Int32)) % ((Int32.ofNat nB_37) + (1 : Int32)))), .val (.int (0 : Int32))] [(.ref bB_37)])) t → Steps p.tables e below (s₁.setTop (entryFrame m #[(.int p1), (.int p2), (.int p3), (.int p4), (.int p5)] maxLocals)) t := fun t k => ac95 t (st96.trans k)
        have ac98 : ∀ t, Steps p.tables e below (T96.setTop (mkF m 190 #[.val (.int p1), .val (.int p2), .val (.int p3), .val (.int p4), .val (.int p5), .val (.ref b1), .val (.ref bB_37), .val (.int (Int32.ofNat nB_37)), .val (.ref bB_37), .val (.int (1 : Int32)), .val (.int ((p5 &&& (2147483647 : Int32)) % ((Int32.ofNat nB_37) + (1 : Int32)))), .val (.int (0 : Int32))] [(.int (0 : Int32)), (.ref b1)])) t → Steps p.tables e below (s₁.setTop (entryFrame m #[(.int p1), (.int p2), (.int p3), (.int p4), (.int p5)] maxLocals)) t := fun t k => ac97 t (by
            show Steps p.tables e below (T96.setTop (mkF m 182 #[.val (.int p1), .val (.int p2), .val (.int p3), .val (.int p4), .val (.int p5), .val (.ref b1), .val (.ref bB_37), .val (.int (Int32.ofNat nB_37)), .val (.ref bB_37), .val (.int (1 : Int32)), .val (.int ((p5 &&& (2147483647 : Int32)) % ((Int32.ofNat nB_37) + (1 : Int32)))), .val (.int (0 : Int32))] [(.ref bB_37)])) _
            refine XS.aload X96.here hx rfl (hb hby at_182) rfl rfl ?_
            show Steps p.tables e below (T96.setTop (mkF m 184 #[.val (.int p1), .val (.int p2), .val (.int p3), .val (.int p4), .val (.int p5), .val (.ref b1), .val (.ref bB_37), .val (.int (Int32.ofNat nB_37)), .val (.ref bB_37), .val (.int (1 : Int32)), .val (.int ((p5 &&& (2147483647 : Int32)) % ((Int32.ofNat nB_37) + (1 : Int32)))), .val (.int (0 : Int32))] [(.ref bB_37), (.ref bB_37)])) _
            refine Jvm.RoadKit.acmp (g := (mkF m 184 #[.val (.int p1), .val (.int p2), .val (.int p3), .val (.int p4), .val (.int p5), .val (.ref b1), .val (.ref bB_37), .val (.int (Int32.ofNat nB_37)), .val (.ref bB_37), .val (.int (1 : Int32)), .val (.int ((p5 &&& (2147483647 : Int32)) % ((Int32.ofNat nB_37) + (1 : Int32)))), .val (.int (0 : Int32))] [(.ref bB_37), (.ref bB_37)])) X96 hx rfl rfl rfl (pc0 := 184) (pc' := 187) (same := true) rfl (hb hby at_184) rfl (decide_eq_true rfl) (by decide) (by decide) ?_
            show Steps p.tables e below (T96.setTop (mkF m 187 #[.val (.int p1), .val (.int p2), .val (.int p3), .val (.int p4), .val (.int p5), .val (.ref b1), .val (.ref bB_37), .val (.int (Int32.ofNat nB_37)), .val (.ref bB_37), .val (.int (1 : Int32)), .val (.int ((p5 &&& (2147483647 : Int32)) % ((Int32.ofNat nB_37) + (1 : Int32)))), .val (.int (0 : Int32))] [])) _
            refine XS.aload X96.here hx rfl (hb hby at_187) rfl rfl ?_
            show Steps p.tables e below (T96.setTop (mkF m 189 #[.val (.int p1), .val (.int p2), .val (.int p3), .val (.int p4), .val (.int p5), .val (.ref b1), .val (.ref bB_37), .val (.int (Int32.ofNat nB_37)), .val (.ref bB_37), .val (.int (1 : Int32)), .val (.int ((p5 &&& (2147483647 : Int32)) % ((Int32.ofNat nB_37) + (1 : Int32)))), .val (.int (0 : Int32))] [(.ref b1)])) _
            refine XS.iconst X96.here hx rfl (hb hby at_189) ?_
            exact k)
        obtain ⟨cq99, kq99, q99a, q99b, q99c⟩ := isOf hZ Qe96 HB92.1
        obtain ⟨_, _, ⟨T99, L99, k99, n99⟩, -, X99, ⟨Lc99, hQ99, l99, y99, z99⟩, st99⟩ := X96.virtualBack hx (y := (⟨"com/example/termwright/termwright/TokenList", "start", "(I)I"⟩ : MethodName)) (z := (⟨"com/example/termwright/termwright/TokenList", "start", "(I)I"⟩ : MethodName)) hown (mvT hZ (hw _ (List.mem_of_getElem? (i := 52) rfl))) (mvT hZ (hw _ (List.mem_of_getElem? (i := 53) rfl))) (notFace_of_selects (args := #[]) (mvT hZ (hw _ (List.mem_of_getElem? (i := 55) rfl)))) (mvT hZ (hw _ (List.mem_of_getElem? (i := 55) rfl))) (mvT hZ (hw _ (List.mem_of_getElem? (i := 54) rfl))) (by decide) (backOf (W := 0) (rm8 l Z a0 hw [] b1 (0 : Int32) _ _ _ _ _ _ _ _ _ _ _ _ _ _ _ p4 T92.heap n0 Z92 HB92 rfl hf92) hZ (hw _ (List.mem_of_getElem? (i := 56) rfl)) (hw _ (List.mem_of_getElem? (i := 2) rfl)) (by decide) (by decide)) q99a q99c (g := (mkF m 190 #[.val (.int p1), .val (.int p2), .val (.int p3), .val (.int p4), .val (.int p5), .val (.ref b1), .val (.ref bB_37), .val (.int (Int32.ofNat nB_37)), .val (.ref bB_37), .val (.int (1 : Int32)), .val (.int ((p5 &&& (2147483647 : Int32)) % ((Int32.ofNat nB_37) + (1 : Int32)))), .val (.int (0 : Int32))] [(.int (0 : Int32)), (.ref b1)])) rfl (by rw [hml]; rfl) (Steps.refl _) (argsL := [(.int (0 : Int32))]) (rest := []) (lenOf pd_5 rfl) rfl (by show 2 * 0 + _ ≤ _; exact Nat.le_of_eq rfl) (hb hby at_190) (fun _ _ => ⟨rfl, Qe96, (by decide : 8 + 0 ≤ _), (by decide : 65879 + 0 ≤ _)⟩)
        dsimp only [Pt.U, Pt.locs, Pt.cells, Pt.slots] at X99 l99 y99 z99 st99 hQ99
        subst l99 y99 z99
        obtain ⟨rfl, N99q, Qe99⟩ := hQ99
        have N99 := Fr.app N96 N99q
        have ac100 : ∀ t, Steps p.tables e below (T99.setTop (mkF m 193 #[.val (.int p1), .val (.int p2), .val (.int p3), .val (.int p4), .val (.int p5), .val (.ref b1), .val (.ref bB_37), .val (.int (Int32.ofNat nB_37)), .val (.ref bB_37), .val (.int (1 : Int32)), .val (.int ((p5 &&& (2147483647 : Int32)) % ((Int32.ofNat nB_37) + (1 : Int32)))), .val (.int (0 : Int32))] [(.int p4)])) t → Steps p.tables e below (s₁.setTop (entryFrame m #[(.int p1), (.int p2), (.int p3), (.int p4), (.int p5)] maxLocals)) t := fun t k => ac98 t (st99.trans k)
        have ac101 : ∀ t, Steps p.tables e below (T99.setTop (mkF m 206 #[.val (.int p1), .val (.int p2), .val (.int p3), .val (.int p4), .val (.int p5), .val (.ref b1), .val (.ref bB_37), .val (.int (Int32.ofNat nB_37)), .val (.ref bB_37), .val (.int (1 : Int32)), .val (.int ((p5 &&& (2147483647 : Int32)) % ((Int32.ofNat nB_37) + (1 : Int32)))), .val (.int (0 : Int32))] [(.int (1 : Int32))])) t → Steps p.tables e below (s₁.setTop (entryFrame m #[(.int p1), (.int p2), (.int p3), (.int p4), (.int p5)] maxLocals)) t := fun t k => ac100 t (by
            show Steps p.tables e below (T99.setTop (mkF m 193 #[.val (.int p1), .val (.int p2), .val (.int p3), .val (.int p4), .val (.int p5), .val (.ref b1), .val (.ref bB_37), .val (.int (Int32.ofNat nB_37)), .val (.ref bB_37), .val (.int (1 : Int32)), .val (.int ((p5 &&& (2147483647 : Int32)) % ((Int32.ofNat nB_37) + (1 : Int32)))), .val (.int (0 : Int32))] [(.int p4)])) _
            refine XS.iloadN X99.here hx rfl (hb hby at_193) rfl ?_
            show Steps p.tables e below (T99.setTop (mkF m 194 #[.val (.int p1), .val (.int p2), .val (.int p3), .val (.int p4), .val (.int p5), .val (.ref b1), .val (.ref bB_37), .val (.int (Int32.ofNat nB_37)), .val (.ref bB_37), .val (.int (1 : Int32)), .val (.int ((p5 &&& (2147483647 : Int32)) % ((Int32.ofNat nB_37) + (1 : Int32)))), .val (.int (0 : Int32))] [(.int p4), (.int p4)])) _
            refine XS.icmpNo X99.here hx rfl (hb hby at_194) rfl (teq rfl).2 ?_
            show Steps p.tables e below (T99.setTop (mkF m 197 #[.val (.int p1), .val (.int p2), .val (.int p3), .val (.int p4), .val (.int p5), .val (.ref b1), .val (.ref bB_37), .val (.int (Int32.ofNat nB_37)), .val (.ref bB_37), .val (.int (1 : Int32)), .val (.int ((p5 &&& (2147483647 : Int32)) % ((Int32.ofNat nB_37) + (1 : Int32)))), .val (.int (0 : Int32))] [])) _
            refine XS.iconst X99.here hx rfl (hb hby at_197) ?_
            show Steps p.tables e below (T99.setTop (mkF m 198 #[.val (.int p1), .val (.int p2), .val (.int p3), .val (.int p4), .val (.int p5), .val (.ref b1), .val (.ref bB_37), .val (.int (Int32.ofNat nB_37)), .val (.ref bB_37), .val (.int (1 : Int32)), .val (.int ((p5 &&& (2147483647 : Int32)) % ((Int32.ofNat nB_37) + (1 : Int32)))), .val (.int (0 : Int32))] [(.int (1 : Int32))])) _
            refine XS.goto X99.here hx rfl (pc0 := 198) (pc' := 202) rfl (hb hby at_198) (by decide) (by decide) ?_
            show Steps p.tables e below (T99.setTop (mkF m 202 #[.val (.int p1), .val (.int p2), .val (.int p3), .val (.int p4), .val (.int p5), .val (.ref b1), .val (.ref bB_37), .val (.int (Int32.ofNat nB_37)), .val (.ref bB_37), .val (.int (1 : Int32)), .val (.int ((p5 &&& (2147483647 : Int32)) % ((Int32.ofNat nB_37) + (1 : Int32)))), .val (.int (0 : Int32))] [(.int (1 : Int32))])) _
            refine XS.istore X99.here hx rfl (hb hby at_202) rfl (l' := #[.val (.int p1), .val (.int p2), .val (.int p3), .val (.int p4), .val (.int p5), .val (.ref b1), .val (.ref bB_37), .val (.int (Int32.ofNat nB_37)), .val (.ref bB_37), .val (.int (1 : Int32)), .val (.int ((p5 &&& (2147483647 : Int32)) % ((Int32.ofNat nB_37) + (1 : Int32)))), .val (.int (0 : Int32))]) rfl ?_
            show Steps p.tables e below (T99.setTop (mkF m 204 #[.val (.int p1), .val (.int p2), .val (.int p3), .val (.int p4), .val (.int p5), .val (.ref b1), .val (.ref bB_37), .val (.int (Int32.ofNat nB_37)), .val (.ref bB_37), .val (.int (1 : Int32)), .val (.int ((p5 &&& (2147483647 : Int32)) % ((Int32.ofNat nB_37) + (1 : Int32)))), .val (.int (0 : Int32))] [])) _
            refine XS.iload X99.here hx rfl (hb hby at_204) rfl ?_
            exact k)
        obtain ⟨fs, hr, hrun, hended, hW, hsame⟩ := X99.leave (v := some (.int (1 : Int32))) (fun h => by rw [Bd.returns] at h; cases h) (BodyLoose.notSynchronized Bd)
        refine ⟨_, _, ac101 _ ?_, hrun, hended, _, _, rfl, ?_, ⟨_, rfl⟩, hW, hsame.mono (by decide) (by decide)⟩
        · show Steps p.tables e below (T99.setTop (mkF m 206 #[.val (.int p1), .val (.int p2), .val (.int p3), .val (.int p4), .val (.int p5), .val (.ref b1), .val (.ref bB_37), .val (.int (Int32.ofNat nB_37)), .val (.ref bB_37), .val (.int (1 : Int32)), .val (.int ((p5 &&& (2147483647 : Int32)) % ((Int32.ofNat nB_37) + (1 : Int32)))), .val (.int (0 : Int32))] [(.int (1 : Int32))])) _
          exact retN X99 hx (t := .boolean) Bd.returns (by simp) (hb hby at_206) hr
        · show Q0 Z p1 p2 p3 p4 p5 h0 n0 _ T99.heap _
          rw [Qe99]
          exact ⟨rfl, N99⟩
    ·
      have hs2 := own_sub0 256 (by decide)
      obtain ⟨cq102, kq102, q102a, q102b, q102c⟩ := isOf hZ rfl HB4.1
      obtain ⟨_, _, ⟨T102, L102, k102, n102⟩, -, X102, ⟨Lc102, hQ102, l102, y102, z102⟩, st102⟩ := X4.virtualBack hx (y := (⟨"com/example/termwright/termwright/TokenList", "add", "(III)I"⟩ : MethodName)) (z := (⟨"com/example/termwright/termwright/TokenList", "add", "(III)I"⟩ : MethodName)) hown (mvT hZ (hw _ (List.mem_of_getElem? (i := 43) rfl))) (mvT hZ (hw _ (List.mem_of_getElem? (i := 44) rfl))) (notFace_of_selects (args := #[]) (mvT hZ (hw _ (List.mem_of_getElem? (i := 46) rfl)))) (mvT hZ (hw _ (List.mem_of_getElem? (i := 46) rfl))) (mvT hZ (hw _ (List.mem_of_getElem? (i := 45) rfl))) (by decide) (backOf (W := 0) (rm6n l Z a0 hw [] b1 p4 p4 (p2 &&& (65535 : Int32)) _ _ _ _ _ _ _ _ _ _ _ _ _  T4.heap n0 Z4 HB4 g_b1 (own_nlt_of (by omega))) hZ (hw _ (List.mem_of_getElem? (i := 47) rfl)) (hw _ (List.mem_of_getElem? (i := 2) rfl)) (by decide) (by decide)) q102a q102c (g := (mkF m 27 #[.val (.int p1), .val (.int p2), .val (.int p3), .val (.int p4), .val (.int p5), .val (.ref b1), .val (.int (p2 &&& (65535 : Int32))), .unset, .unset, .unset, .unset, .unset] [(.int (p2 &&& (65535 : Int32))), (.int p4), (.int p4), (.ref b1)])) rfl (by rw [hml]; rfl) (Steps.refl _) (argsL := [(.int p4), (.int p4), (.int (p2 &&& (65535 : Int32)))]) (rest := []) (lenOf pd_3 rfl) rfl (by show 2 * 0 + _ ≤ _; exact Nat.le_of_eq rfl) (hb hby at_27) (fun _ _ => ⟨rfl, rfl, (by decide : 7 + 0 ≤ _), (by decide : 344 + 0 ≤ _)⟩)
      dsimp only [Pt.U, Pt.locs, Pt.cells, Pt.slots] at X102 l102 y102 z102 st102 hQ102
      subst l102 y102 z102
      obtain ⟨f1_102, f2_102, f3_102, f4_102, f5_102, rfl, N102q, K102q, hf102, HB102⟩ := hQ102
      have N102 := Fr.app N4 N102q
      have Ef103 := HB4.1.keep K102q
      have Z102 : n0 ≤ T102.heap.size := Nat.le_trans Z4 K102q.1
      have ac104 : ∀ t, Steps p.tables e below (T102.setTop (mkF m 30 #[.val (.int p1), .val (.int p2), .val (.int p3), .val (.int p4), .val (.int p5), .val (.ref b1), .val (.int (p2 &&& (65535 : Int32))), .unset, .unset, .unset, .unset, .unset] [(.int (0 : Int32))])) t → Steps p.tables e below (s₁.setTop (entryFrame m #[(.int p1), (.int p2), (.int p3), (.int p4), (.int p5)] maxLocals)) t := fun t k => ac36 t (st102.trans k)
      have hq1 := own_p1 hrn hrl
      have ac105 : ∀ t, Steps p.tables e below (T102.setTop (mkF m 48 #[.val (.int p1), .val (.int p2), .val (.int p3), .val (.int p4), .val (.int p5), .val (.ref b1), .val (.int (p2 &&& (65535 : Int32))), .val (.int ((p3 &&& (2147483647 : Int32)) % ((p2 &&& (65535 : Int32)) + (1 : Int32)))), .unset, .unset, .unset, .unset] [(.int ((p3 &&& (2147483647 : Int32)) % ((p2 &&& (65535 : Int32)) + (1 : Int32)))), (.int ((p3 &&& (2147483647 : Int32)) % ((p2 &&& (65535 : Int32)) + (1 : Int32)))), (.ref b1)])) t → Steps p.tables e below (s₁.setTop (entryFrame m #[(.int p1), (.int p2), (.int p3), (.int p4), (.int p5)] maxLocals)) t := fun t k => ac104 t (by
          show Steps p.tables e below (T102.setTop (mkF m 30 #[.val (.int p1), .val (.int p2), .val (.int p3), .val (.int p4), .val (.int p5), .val (.ref b1), .val (.int (p2 &&& (65535 : Int32))), .unset, .unset, .unset, .unset, .unset] [(.int (0 : Int32))])) _
          refine XS.pop X102.here hx rfl (hb hby at_30) rfl rfl ?_
          show Steps p.tables e below (T102.setTop (mkF m 31 #[.val (.int p1), .val (.int p2), .val (.int p3), .val (.int p4), .val (.int p5), .val (.ref b1), .val (.int (p2 &&& (65535 : Int32))), .unset, .unset, .unset, .unset, .unset] [])) _
          refine XS.iloadN X102.here hx rfl (hb hby at_31) rfl ?_
          show Steps p.tables e below (T102.setTop (mkF m 32 #[.val (.int p1), .val (.int p2), .val (.int p3), .val (.int p4), .val (.int p5), .val (.ref b1), .val (.int (p2 &&& (65535 : Int32))), .unset, .unset, .unset, .unset, .unset] [(.int p3)])) _
          refine X102.ldcInt hx hown (mvT hZ (hw _ (List.mem_of_getElem? (i := 42) rfl))) (g := (mkF m 32 #[.val (.int p1), .val (.int p2), .val (.int p3), .val (.int p4), .val (.int p5), .val (.ref b1), .val (.int (p2 &&& (65535 : Int32))), .unset, .unset, .unset, .unset, .unset] [(.int p3)])) rfl (hb hby at_32) _ ?_
          show Steps p.tables e below (T102.setTop (mkF m 34 #[.val (.int p1), .val (.int p2), .val (.int p3), .val (.int p4), .val (.int p5), .val (.ref b1), .val (.int (p2 &&& (65535 : Int32))), .unset, .unset, .unset, .unset, .unset] [(.int (2147483647 : Int32)), (.int p3)])) _
          refine XS.iand X102.here hx rfl (hb hby at_34) rfl ?_
          show Steps p.tables e below (T102.setTop (mkF m 35 #[.val (.int p1), .val (.int p2), .val (.int p3), .val (.int p4), .val (.int p5), .val (.ref b1), .val (.int (p2 &&& (65535 : Int32))), .unset, .unset, .unset, .unset, .unset] [(.int (p3 &&& (2147483647 : Int32)))])) _
          refine XS.iload X102.here hx rfl (hb hby at_35) rfl ?_
          show Steps p.tables e below (T102.setTop (mkF m 37 #[.val (.int p1), .val (.int p2), .val (.int p3), .val (.int p4), .val (.int p5), .val (.ref b1), .val (.int (p2 &&& (65535 : Int32))), .unset, .unset, .unset, .unset, .unset] [(.int (p2 &&& (65535 : Int32))), (.int (p3 &&& (2147483647 : Int32)))])) _
          refine XS.iconst X102.here hx rfl (hb hby at_37) ?_
          show Steps p.tables e below (T102.setTop (mkF m 38 #[.val (.int p1), .val (.int p2), .val (.int p3), .val (.int p4), .val (.int p5), .val (.ref b1), .val (.int (p2 &&& (65535 : Int32))), .unset, .unset, .unset, .unset, .unset] [(.int (1 : Int32)), (.int (p2 &&& (65535 : Int32))), (.int (p3 &&& (2147483647 : Int32)))])) _
          refine XS.iadd X102.here hx rfl (hb hby at_38) rfl ?_
          show Steps p.tables e below (T102.setTop (mkF m 39 #[.val (.int p1), .val (.int p2), .val (.int p3), .val (.int p4), .val (.int p5), .val (.ref b1), .val (.int (p2 &&& (65535 : Int32))), .unset, .unset, .unset, .unset, .unset] [(.int ((p2 &&& (65535 : Int32)) + (1 : Int32))), (.int (p3 &&& (2147483647 : Int32)))])) _
          refine iremM X102 hx rfl (hb hby at_39) rfl (own_nz hq1) ?_
          show Steps p.tables e below (T102.setTop (mkF m 40 #[.val (.int p1), .val (.int p2), .val (.int p3), .val (.int p4), .val (.int p5), .val (.ref b1), .val (.int (p2 &&& (65535 : Int32))), .unset, .unset, .unset, .unset, .unset] [(.int ((p3 &&& (2147483647 : Int32)) % ((p2 &&& (65535 : Int32)) + (1 : Int32))))])) _
          refine XS.istore X102.here hx rfl (hb hby at_40) rfl (l' := #[.val (.int p1), .val (.int p2), .val (.int p3), .val (.int p4), .val (.int p5), .val (.ref b1), .val (.int (p2 &&& (65535 : Int32))), .val (.int ((p3 &&& (2147483647 : Int32)) % ((p2 &&& (65535 : Int32)) + (1 : Int32)))), .unset, .unset, .unset, .unset]) rfl ?_
          show Steps p.tables e below (T102.setTop (mkF m 42 #[.val (.int p1), .val (.int p2), .val (.int p3), .val (.int p4), .val (.int p5), .val (.ref b1), .val (.int (p2 &&& (65535 : Int32))), .val (.int ((p3 &&& (2147483647 : Int32)) % ((p2 &&& (65535 : Int32)) + (1 : Int32)))), .unset, .unset, .unset, .unset] [])) _
          refine XS.aload X102.here hx rfl (hb hby at_42) rfl rfl ?_
          show Steps p.tables e below (T102.setTop (mkF m 44 #[.val (.int p1), .val (.int p2), .val (.int p3), .val (.int p4), .val (.int p5), .val (.ref b1), .val (.int (p2 &&& (65535 : Int32))), .val (.int ((p3 &&& (2147483647 : Int32)) % ((p2 &&& (65535 : Int32)) + (1 : Int32)))), .unset, .unset, .unset, .unset] [(.ref b1)])) _
          refine XS.iload X102.here hx rfl (hb hby at_44) rfl ?_
          show Steps p.tables e below (T102.setTop (mkF m 46 #[.val (.int p1), .val (.int p2), .val (.int p3), .val (.int p4), .val (.int p5), .val (.ref b1), .val (.int (p2 &&& (65535 : Int32))), .val (.int ((p3 &&& (2147483647 : Int32)) % ((p2 &&& (65535 : Int32)) + (1 : Int32)))), .unset, .unset, .unset, .unset] [(.int ((p3 &&& (2147483647 : Int32)) % ((p2 &&& (65535 : Int32)) + (1 : Int32)))), (.ref b1)])) _
          refine XS.iload X102.here hx rfl (hb hby at_46) rfl ?_
          exact k)
      obtain ⟨cq106, kq106, q106a, q106b, q106c⟩ := isOf hZ rfl HB102.1
      obtain ⟨_, _, ⟨T106, L106, k106, n106⟩, -, X106, ⟨Lc106, hQ106, l106, y106, z106⟩, st106⟩ := X102.virtualBack hx (y := (⟨"com/example/termwright/termwright/TokenList", "endTerm", "(II)V"⟩ : MethodName)) (z := (⟨"com/example/termwright/termwright/TokenList", "endTerm", "(II)V"⟩ : MethodName)) hown (mvT hZ (hw _ (List.mem_of_getElem? (i := 58) rfl))) (mvT hZ (hw _ (List.mem_of_getElem? (i := 59) rfl))) (notFace_of_selects (args := #[]) (mvT hZ (hw _ (List.mem_of_getElem? (i := 61) rfl)))) (mvT hZ (hw _ (List.mem_of_getElem? (i := 61) rfl))) (mvT hZ (hw _ (List.mem_of_getElem? (i := 60) rfl))) (by decide) (backOf (W := 0) (rm9 l Z a0 hw [] b1 ((p3 &&& (2147483647 : Int32)) % ((p2 &&& (65535 : Int32)) + (1 : Int32))) ((p3 &&& (2147483647 : Int32)) % ((p2 &&& (65535 : Int32)) + (1 : Int32))) _ _ _ _ _ _ _ _ _ _ _ _ _  T102.heap n0 Z102 HB102 g_b1) hZ (hw _ (List.mem_of_getElem? (i := 62) rfl)) (hw _ (List.mem_of_getElem? (i := 2) rfl)) (by decide) (by decide)) q106a q106c (g := (mkF m 48 #[.val (.int p1), .val (.int p2), .val (.int p3), .val (.int p4), .val (.int p5), .val (.ref b1), .val (.int (p2 &&& (65535 : Int32))), .val (.int ((p3 &&& (2147483647 : Int32)) % ((p2 &&& (65535 : Int32)) + (1 : Int32)))), .unset, .unset, .unset, .unset] [(.int ((p3 &&& (2147483647 : Int32)) % ((p2 &&& (65535 : Int32)) + (1 : Int32)))), (.int ((p3 &&& (2147483647 : Int32)) % ((p2 &&& (65535 : Int32)) + (1 : Int32)))), (.ref b1)])) rfl (by rw [hml]; rfl) (Steps.refl _) (argsL := [(.int ((p3 &&& (2147483647 : Int32)) % ((p2 &&& (65535 : Int32)) + (1 : Int32)))), (.int ((p3 &&& (2147483647 : Int32)) % ((p2 &&& (65535 : Int32)) + (1 : Int32))))]) (rest := []) (lenOf pd_6 rfl) rfl (by show 2 * 0 + _ ≤ _; exact Nat.le_of_eq rfl) (hb hby at_48) (fun _ _ => ⟨rfl, rfl, (by decide : 7 + 0 ≤ _), (by decide : 344 + 0 ≤ _)⟩)
      dsimp only [Pt.U, Pt.locs, Pt.cells, Pt.slots] at X106 l106 y106 z106 st106 hQ106
      subst l106 y106 z106
      obtain ⟨f4_106, f5_106, rfl, N106q, K106q, HB106⟩ := hQ106
      have N106 := Fr.app N102 N106q
      have Ef107 := HB102.1.keep K106q
      have Z106 : n0 ≤ T106.heap.size := Nat.le_trans Z102 K106q.1
      have ac108 : ∀ t, Steps p.tables e below (T106.setTop (mkF m 51 #[.val (.int p1), .val (.int p2), .val (.int p3), .val (.int p4), .val (.int p5), .val (.ref b1), .val (.int (p2 &&& (65535 : Int32))), .val (.int ((p3 &&& (2147483647 : Int32)) % ((p2 &&& (65535 : Int32)) + (1 : Int32)))), .unset, .unset, .unset, .unset] [])) t → Steps p.tables e below (s₁.setTop (entryFrame m #[(.int p1), (.int p2), (.int p3), (.int p4), (.int p5)] maxLocals)) t := fun t k => ac105 t (st106.trans k)
      have hsmall : 256 ≤ 16384 := by decide
      have ac109 : ∀ t, Steps p.tables e below (T106.setTop (mkF m 53 #[.val (.int p1), .val (.int p2), .val (.int p3), .val (.int p4), .val (.int p5), .val (.ref b1), .val (.int (p2 &&& (65535 : Int32))), .val (.int ((p3 &&& (2147483647 : Int32)) % ((p2 &&& (65535 : Int32)) + (1 : Int32)))), .unset, .unset, .unset, .unset] [(.ref b1)])) t → Steps p.tables e below (s₁.setTop (entryFrame m #[(.int p1), (.int p2), (.int p3), (.int p4), (.int p5)] maxLocals)) t := fun t k => ac108 t (by
          show Steps p.tables e below (T106.setTop (mkF m 51 #[.val (.int p1), .val (.int p2), .val (.int p3), .val (.int p4), .val (.int p5), .val (.ref b1), .val (.int (p2 &&& (65535 : Int32))), .val (.int ((p3 &&& (2147483647 : Int32)) % ((p2 &&& (65535 : Int32)) + (1 : Int32)))), .unset, .unset, .unset, .unset] [])) _
          refine XS.aload X106.here hx rfl (hb hby at_51) rfl rfl ?_
          exact k)
      obtain ⟨cq110, kq110, q110a, q110b, q110c⟩ := isOf hZ rfl HB106.1
      obtain ⟨_, _, ⟨T110, L110, k110, n110⟩, -, X110, ⟨Lc110, hQ110, l110, y110, z110⟩, st110⟩ := X106.virtualBack hx (y := (⟨"com/example/termwright/termwright/TokenList", "termBytes", "()[B"⟩ : MethodName)) (z := (⟨"com/example/termwright/termwright/TokenList", "termBytes", "()[B"⟩ : MethodName)) hown (mvT hZ (hw _ (List.mem_of_getElem? (i := 23) rfl))) (mvT hZ (hw _ (List.mem_of_getElem? (i := 24) rfl))) (notFace_of_selects (args := #[]) (mvT hZ (hw _ (List.mem_of_getElem? (i := 26) rfl)))) (mvT hZ (hw _ (List.mem_of_getElem? (i := 26) rfl))) (mvT hZ (hw _ (List.mem_of_getElem? (i := 25) rfl))) (by decide) (backOf (W := 0) (rm3 l Z a0 hw [] b1 _ _ _ _ _ _ _ _ _ _ _ _ _ _ _  T106.heap n0 Z106 HB106) hZ (hw _ (List.mem_of_getElem? (i := 27) rfl)) (hw _ (List.mem_of_getElem? (i := 2) rfl)) (by decide) (by decide)) q110a q110c (g := (mkF m 53 #[.val (.int p1), .val (.int p2), .val (.int p3), .val (.int p4), .val (.int p5), .val (.ref b1), .val (.int (p2 &&& (65535 : Int32))), .val (.int ((p3 &&& (2147483647 : Int32)) % ((p2 &&& (65535 : Int32)) + (1 : Int32)))), .unset, .unset, .unset, .unset] [(.ref b1)])) rfl (by rw [hml]; rfl) (Steps.refl _) (argsL := []) (rest := []) (lenOf pd_1 rfl) rfl (by show 2 * 0 + _ ≤ _; exact Nat.le_of_eq rfl) (hb hby at_53) (fun _ _ => ⟨rfl, rfl, (by decide : 7 + 0 ≤ _), (by decide : 344 + 0 ≤ _)⟩)
      dsimp only [Pt.U, Pt.locs, Pt.cells, Pt.slots] at X110 l110 y110 z110 st110 hQ110
      subst l110 y110 z110
      obtain ⟨rfl, N110q, Qe110⟩ := hQ110
      have N110 := Fr.app N106 N110q
      have ac111 : ∀ t, Steps p.tables e below (T110.setTop (mkF m 56 #[.val (.int p1), .val (.int p2), .val (.int p3), .val (.int p4), .val (.int p5), .val (.ref b1), .val (.int (p2 &&& (65535 : Int32))), .val (.int ((p3 &&& (2147483647 : Int32)) % ((p2 &&& (65535 : Int32)) + (1 : Int32)))), .unset, .unset, .unset, .unset] [(.ref bB_4)])) t → Steps p.tables e below (s₁.setTop (entryFrame m #[(.int p1), (.int p2), (.int p3), (.int p4), (.int p5)] maxLocals)) t := fun t k => ac109 t (st110.trans k)
      obtain ⟨-, -, -, -, -, -, -, -, -, -, -, -, -, -, Vb0, -⟩ := id HB106
      have ac112 : ∀ t, Steps p.tables e below (T110.setTop (mkF m 60 #[.val (.int p1), .val (.int p2), .val (.int p3), .val (.int p4), .val (.int p5), .val (.ref b1), .val (.ref bB_4), .val (.int ((p3 &&& (2147483647 : Int32)) % ((p2 &&& (65535 : Int32)) + (1 : Int32)))), .unset, .unset, .unset, .unset] [(.ref bB_4)])) t → Steps p.tables e below (s₁.setTop (entryFrame m #[(.int p1), (.int p2), (.int p3), (.int p4), (.int p5)] maxLocals)) t := fun t k => ac111 t (by
          show Steps p.tables e below (T110.setTop (mkF m 56 #[.val (.int p1), .val (.int p2), .val (.int p3), .val (.int p4), .val (.int p5), .val (.ref b1), .val (.int (p2 &&& (65535 : Int32))), .val (.int ((p3 &&& (2147483647 : Int32)) % ((p2 &&& (65535 : Int32)) + (1 : Int32)))), .unset, .unset, .unset, .unset] [(.ref bB_4)])) _
          refine XS.astore X110.here hx rfl (hb hby at_56) rfl rfl (l' := #[.val (.int p1), .val (.int p2), .val (.int p3), .val (.int p4), .val (.int p5), .val (.ref b1), .val (.ref bB_4), .val (.int ((p3 &&& (2147483647 : Int32)) % ((p2 &&& (65535 : Int32)) + (1 : Int32)))), .unset, .unset, .unset, .unset]) rfl ?_
          show Steps p.tables e below (T110.setTop (mkF m 58 #[.val (.int p1), .val (.int p2), .val (.int p3), .val (.int p4), .val (.int p5), .val (.ref b1), .val (.ref bB_4), .val (.int ((p3 &&& (2147483647 : Int32)) % ((p2 &&& (65535 : Int32)) + (1 : Int32)))), .unset, .unset, .unset, .unset] [])) _
          refine XS.aload X110.here hx rfl (hb hby at_58) rfl rfl ?_
          exact k)
      obtain ⟨cl113, Ac113, hl113, hb113⟩ := Vb0.len
      have hlen := own_ofNat hb113
      have z14 : (16384 : Int32).toInt = 16384 := rfl
      have ac114 : ∀ t, Steps p.tables e below (T110.setTop (mkF m 65 #[.val (.int p1), .val (.int p2), .val (.int p3), .val (.int p4), .val (.int p5), .val (.ref b1), .val (.ref bB_4), .val (.int (Int32.ofNat 256)), .unset, .unset, .unset, .unset] [(.ref b1)])) t → Steps p.tables e below (s₁.setTop (entryFrame m #[(.int p1), (.int p2), (.int p3), (.int p4), (.int p5)] maxLocals)) t := fun t k => ac112 t (by
          show Steps p.tables e below (T110.setTop (mkF m 60 #[.val (.int p1), .val (.int p2), .val (.int p3), .val (.int p4), .val (.int p5), .val (.ref b1), .val (.ref bB_4), .val (.int ((p3 &&& (2147483647 : Int32)) % ((p2 &&& (65535 : Int32)) + (1 : Int32)))), .unset, .unset, .unset, .unset] [(.ref bB_4)])) _
          refine X110.arraylength hx (by rw [Qe110]; exact Ac113.1) (State.isArrayOf_alike hZ.alike Ac113.2.1) (g := (mkF m 60 #[.val (.int p1), .val (.int p2), .val (.int p3), .val (.int p4), .val (.int p5), .val (.ref b1), .val (.ref bB_4), .val (.int ((p3 &&& (2147483647 : Int32)) % ((p2 &&& (65535 : Int32)) + (1 : Int32)))), .unset, .unset, .unset, .unset] [(.ref bB_4)])) rfl rfl (hb hby at_60) _ ?_
          rw [hl113]
          show Steps p.tables e below (T110.setTop (mkF m 61 #[.val (.int p1), .val (.int p2), .val (.int p3), .val (.int p4), .val (.int p5), .val (.ref b1), .val (.ref bB_4), .val (.int ((p3 &&& (2147483647 : Int32)) % ((p2 &&& (65535 : Int32)) + (1 : Int32)))), .unset, .unset, .unset, .unset] [(.int (Int32.ofNat 256))])) _
          refine XS.istore X110.here hx rfl (hb hby at_61) rfl (l' := #[.val (.int p1), .val (.int p2), .val (.int p3), .val (.int p4), .val (.int p5), .val (.ref b1), .val (.ref bB_4), .val (.int (Int32.ofNat 256)), .unset, .unset, .unset, .unset]) rfl ?_
          show Steps p.tables e below (T110.setTop (mkF m 63 #[.val (.int p1), .val (.int p2), .val (.int p3), .val (.int p4), .val (.int p5), .val (.ref b1), .val (.ref bB_4), .val (.int (Int32.ofNat 256)), .unset, .unset, .unset, .unset] [])) _
          refine XS.aload X110.here hx rfl (hb hby at_63) rfl rfl ?_
          exact k)
      obtain ⟨cq115, kq115, q115a, q115b, q115c⟩ := isOf hZ Qe110 HB106.1
      obtain ⟨_, _, ⟨T115, L115, k115, n115⟩, -, X115, ⟨Lc115, hQ115, l115, y115, z115⟩, st115⟩ := X110.virtualBack hx (y := (⟨"com/example/termwright/termwright/TokenList", "clear", "()V"⟩ : MethodName)) (z := (⟨"com/example/termwright/termwright/TokenList", "clear", "()V"⟩ : MethodName)) hown (mvT hZ (hw _ (List.mem_of_getElem? (i := 28) rfl))) (mvT hZ (hw _ (List.mem_of_getElem? (i := 29) rfl))) (notFace_of_selects (args := #[]) (mvT hZ (hw _ (List.mem_of_getElem? (i := 31) rfl)))) (mvT hZ (hw _ (List.mem_of_getElem? (i := 31) rfl))) (mvT hZ (hw _ (List.mem_of_getElem? (i := 30) rfl))) (by decide) (backOf (W := 0) (rm4n l Z a0 hw [] b1 _ _ _ _ _ _ _ _ _ _ _ _ _ _ _  T106.heap n0 Z106 HB106 g_b1 hsmall) hZ (hw _ (List.mem_of_getElem? (i := 32) rfl)) (hw _ (List.mem_of_getElem? (i := 2) rfl)) (by decide) (by decide)) q115a q115c (g := (mkF m 65 #[.val (.int p1), .val (.int p2), .val (.int p3), .val (.int p4), .val (.int p5), .val (.ref b1), .val (.ref bB_4), .val (.int (Int32.ofNat 256)), .unset, .unset, .unset, .unset] [(.ref b1)])) rfl (by rw [hml]; rfl) (Steps.refl _) (argsL := []) (rest := []) (lenOf pd_0 rfl) rfl (by show 2 * 0 + _ ≤ _; exact Nat.le_of_eq rfl) (hb hby at_65) (fun _ _ => ⟨rfl, Qe110, (by decide : 7 + 0 ≤ _), (by decide : 344 + 0 ≤ _)⟩)
      dsimp only [Pt.U, Pt.locs, Pt.cells, Pt.slots] at X115 l115 y115 z115 st115 hQ115
      subst l115 y115 z115
      obtain ⟨rfl, N115q, K115q, HB115⟩ := hQ115
      have N115 := Fr.app N110 N115q
      have Ef116 := HB106.1.keep K115q
      have Z115 : n0 ≤ T115.heap.size := Nat.le_trans Z106 K115q.1
      have ac117 : ∀ t, Steps p.tables e below (T115.setTop (mkF m 68 #[.val (.int p1), .val (.int p2), .val (.int p3), .val (.int p4), .val (.int p5), .val (.ref b1), .val (.ref bB_4), .val (.int (Int32.ofNat 256)), .unset, .unset, .unset, .unset] [])) t → Steps p.tables e below (s₁.setTop (entryFrame m #[(.int p1), (.int p2), (.int p3), (.int p4), (.int p5)] maxLocals)) t := fun t k => ac114 t (st115.trans k)
      have hle16 : 256 ≤ 65535 := Nat.le_trans hsmall (by decide)
      have ac118 : ∀ t, Steps p.tables e below (T115.setTop (mkF m 70 #[.val (.int p1), .val (.int p2), .val (.int p3), .val (.int p4), .val (.int p5), .val (.ref b1), .val (.ref bB_4), .val (.int (Int32.ofNat 256)), .unset, .unset, .unset, .unset] [(.ref b1)])) t → Steps p.tables e below (s₁.setTop (entryFrame m #[(.int p1), (.int p2), (.int p3), (.int p4), (.int p5)] maxLocals)) t := fun t k => ac117 t (by
          show Steps p.tables e below (T115.setTop (mkF m 68 #[.val (.int p1), .val (.int p2), .val (.int p3), .val (.int p4), .val (.int p5), .val (.ref b1), .val (.ref bB_4), .val (.int (Int32.ofNat 256)), .unset, .unset, .unset, .unset] [])) _
          refine XS.aload X115.here hx rfl (hb hby at_68) rfl rfl ?_
          exact k)
      obtain ⟨cq119, kq119, q119a, q119b, q119c⟩ := isOf hZ rfl HB115.1
      obtain ⟨_, _, ⟨T119, L119, k119, n119⟩, -, X119, ⟨Lc119, hQ119, l119, y119, z119⟩, st119⟩ := X115.virtualBack hx (y := (⟨"com/example/termwright/termwright/TokenList", "termBytes", "()[B"⟩ : MethodName)) (z := (⟨"com/example/termwright/termwright/TokenList", "termBytes", "()[B"⟩ : MethodName)) hown (mvT hZ (hw _ (List.mem_of_getElem? (i := 23) rfl))) (mvT hZ (hw _ (List.mem_of_getElem? (i := 24) rfl))) (notFace_of_selects (args := #[]) (mvT hZ (hw _ (List.mem_of_getElem? (i := 26) rfl)))) (mvT hZ (hw _ (List.mem_of_getElem? (i := 26) rfl))) (mvT hZ (hw _ (List.mem_of_getElem? (i := 25) rfl))) (by decide) (backOf (W := 0) (rm3 l Z a0 hw [] b1 _ _ _ _ _ _ _ _ _ _ _ _ _ _ _  T115.heap n0 Z115 HB115) hZ (hw _ (List.mem_of_getElem? (i := 27) rfl)) (hw _ (List.mem_of_getElem? (i := 2) rfl)) (by decide) (by decide)) q119a q119c (g := (mkF m 70 #[.val (.int p1), .val (.int p2), .val (.int p3), .val (.int p4), .val (.int p5), .val (.ref b1), .val (.ref bB_4), .val (.int (Int32.ofNat 256)), .unset, .unset, .unset, .unset] [(.ref b1)])) rfl (by rw [hml]; rfl) (Steps.refl _) (argsL := []) (rest := []) (lenOf pd_1 rfl) rfl (by show 2 * 0 + _ ≤ _; exact Nat.le_of_eq rfl) (hb hby at_70) (fun _ _ => ⟨rfl, rfl, (by decide : 7 + 0 ≤ _), (by decide : 344 + 0 ≤ _)⟩)
      dsimp only [Pt.U, Pt.locs, Pt.cells, Pt.slots] at X119 l119 y119 z119 st119 hQ119
      subst l119 y119 z119
      obtain ⟨rfl, N119q, Qe119⟩ := hQ119
      have N119 := Fr.app N115 N119q
      have ac120 : ∀ t, Steps p.tables e below (T119.setTop (mkF m 73 #[.val (.int p1), .val (.int p2), .val (.int p3), .val (.int p4), .val (.int p5), .val (.ref b1), .val (.ref bB_4), .val (.int (Int32.ofNat 256)), .unset, .unset, .unset, .unset] [(.ref bB_4)])) t → Steps p.tables e below (s₁.setTop (entryFrame m #[(.int p1), (.int p2), (.int p3), (.int p4), (.int p5)] maxLocals)) t := fun t k => ac118 t (st119.trans k)
      have ac121 : ∀ t, Steps p.tables e below (T119.setTop (mkF m 77 #[.val (.int p1), .val (.int p2), .val (.int p3), .val (.int p4), .val (.int p5), .val (.ref b1), .val (.ref bB_4), .val (.int (Int32.ofNat 256)), .val (.ref bB_4), .unset, .unset, .unset] [(.ref b1)])) t → Steps p.tables e below (s₁.setTop (entryFrame m #[(.int p1), (.int p2), (.int p3), (.int p4), (.int p5)] maxLocals)) t := fun t k => ac120 t (by
          show Steps p.tables e below (T119.setTop (mkF m 73 #[.val (.int p1), .val (.int p2), .val (.int p3), .val (.int p4), .val (.int p5), .val (.ref b1), .val (.ref bB_4), .val (.int (Int32.ofNat 256)), .unset, .unset, .unset, .unset] [(.ref bB_4)])) _
          refine XS.astore X119.here hx rfl (hb hby at_73) rfl rfl (l' := #[.val (.int p1), .val (.int p2), .val (.int p3), .val (.int p4), .val (.int p5), .val (.ref b1), .val (.ref bB_4), .val (.int (Int32.ofNat 256)), .val (.ref bB_4), .unset, .unset, .unset]) rfl ?_
          show Steps p.tables e below (T119.setTop (mkF m 75 #[.val (.int p1), .val (.int p2), .val (.int p3), .val (.int p4), .val (.int p5), .val (.ref b1), .val (.ref bB_4), .val (.int (Int32.ofNat 256)), .val (.ref bB_4), .unset, .unset, .unset] [])) _
          refine XS.aload X119.here hx rfl (hb hby at_75) rfl rfl ?_
          exact k)
      obtain ⟨cq122, kq122, q122a, q122b, q122c⟩ := isOf hZ Qe119 HB115.1
      obtain ⟨_, _, ⟨T122, L122, k122, n122⟩, -, X122, ⟨Lc122, hQ122, l122, y122, z122⟩, st122⟩ := X119.virtualBack hx (y := (⟨"com/example/termwright/termwright/TokenList", "size", "()I"⟩ : MethodName)) (z := (⟨"com/example/termwright/termwright/TokenList", "size", "()I"⟩ : MethodName)) hown (mvT hZ (hw _ (List.mem_of_getElem? (i := 37) rfl))) (mvT hZ (hw _ (List.mem_of_getElem? (i := 38) rfl))) (notFace_of_selects (args := #[]) (mvT hZ (hw _ (List.mem_of_getElem? (i := 40) rfl)))) (mvT hZ (hw _ (List.mem_of_getElem? (i := 40) rfl))) (mvT hZ (hw _ (List.mem_of_getElem? (i := 39) rfl))) (by decide) (backOf (W := 0) (rm5 l Z a0 hw [] b1 _ _ _ _ _ _ _ _ _ _ _ _ _ _ _  T115.heap n0 Z115 HB115) hZ (hw _ (List.mem_of_getElem? (i := 41) rfl)) (hw _ (List.mem_of_getElem? (i := 2) rfl)) (by decide) (by decide)) q122a q122c (g := (mkF m 77 #[.val (.int p1), .val (.int p2), .val (.int p3), .val (.int p4), .val (.int p5), .val (.ref b1), .val (.ref bB_4), .val (.int (Int32.ofNat 256)), .val (.ref bB_4), .unset, .unset, .unset] [(.ref b1)])) rfl (by rw [hml]; rfl) (Steps.refl _) (argsL := []) (rest := []) (lenOf pd_2 rfl) rfl (by show 2 * 0 + _ ≤ _; exact Nat.le_of_eq rfl) (hb hby at_77) (fun _ _ => ⟨rfl, Qe119, (by decide : 7 + 0 ≤ _), (by decide : 344 + 0 ≤ _)⟩)
      dsimp only [Pt.U, Pt.locs, Pt.cells, Pt.slots] at X122 l122 y122 z122 st122 hQ122
      subst l122 y122 z122
      obtain ⟨rfl, N122q, Qe122⟩ := hQ122
      have N122 := Fr.app N119 N122q
      have ac123 : ∀ t, Steps p.tables e below (T122.setTop (mkF m 80 #[.val (.int p1), .val (.int p2), .val (.int p3), .val (.int p4), .val (.int p5), .val (.ref b1), .val (.ref bB_4), .val (.int (Int32.ofNat 256)), .val (.ref bB_4), .unset, .unset, .unset] [(.int (0 : Int32))])) t → Steps p.tables e below (s₁.setTop (entryFrame m #[(.int p1), (.int p2), (.int p3), (.int p4), (.int p5)] maxLocals)) t := fun t k => ac121 t (st122.trans k)
      obtain ⟨-, -, -, -, -, -, -, -, -, -, -, -, -, -, Vb1, -⟩ := id HB115
      have ac124 : ∀ t, Steps p.tables e below (T122.setTop (mkF m 148 #[.val (.int p1), .val (.int p2), .val (.int p3), .val (.int p4), .val (.int p5), .val (.ref b1), .val (.ref bB_4), .val (.int (Int32.ofNat 256)), .val (.ref bB_4), .val (.int (1 : Int32)), .unset, .unset] [(.ref bB_4), (.int (p5 &&& (2147483647 : Int32)))])) t → Steps p.tables e below (s₁.setTop (entryFrame m #[(.int p1), (.int p2), (.int p3), (.int p4), (.int p5)] maxLocals)) t := fun t k => ac123 t (by
          show Steps p.tables e below (T122.setTop (mkF m 80 #[.val (.int p1), .val (.int p2), .val (.int p3), .val (.int p4), .val (.int p5), .val (.ref b1), .val (.ref bB_4), .val (.int (Int32.ofNat 256)), .val (.ref bB_4), .unset, .unset, .unset] [(.int (0 : Int32))])) _
          refine XS.ifNo X122.here hx rfl (hb hby at_80) rfl ((if0 _ _).trans (teq rfl).2) ?_
          show Steps p.tables e below (T122.setTop (mkF m 83 #[.val (.int p1), .val (.int p2), .val (.int p3), .val (.int p4), .val (.int p5), .val (.ref b1), .val (.ref bB_4), .val (.int (Int32.ofNat 256)), .val (.ref bB_4), .unset, .unset, .unset] [])) _
          refine XS.iconst X122.here hx rfl (hb hby at_83) ?_
          show Steps p.tables e below (T122.setTop (mkF m 84 #[.val (.int p1), .val (.int p2), .val (.int p3), .val (.int p4), .val (.int p5), .val (.ref b1), .val (.ref bB_4), .val (.int (Int32.ofNat 256)), .val (.ref bB_4), .unset, .unset, .unset] [(.int (1 : Int32))])) _
          refine XS.goto X122.here hx rfl (pc0 := 84) (pc' := 88) rfl (hb hby at_84) (by decide) (by decide) ?_
          show Steps p.tables e below (T122.setTop (mkF m 88 #[.val (.int p1), .val (.int p2), .val (.int p3), .val (.int p4), .val (.int p5), .val (.ref b1), .val (.ref bB_4), .val (.int (Int32.ofNat 256)), .val (.ref bB_4), .unset, .unset, .unset] [(.int (1 : Int32))])) _
          refine XS.istore X122.here hx rfl (hb hby at_88) rfl (l' := #[.val (.int p1), .val (.int p2), .val (.int p3), .val (.int p4), .val (.int p5), .val (.ref b1), .val (.ref bB_4), .val (.int (Int32.ofNat 256)), .val (.ref bB_4), .val (.int (1 : Int32)), .unset, .unset]) rfl ?_
          show Steps p.tables e below (T122.setTop (mkF m 90 #[.val (.int p1), .val (.int p2), .val (.int p3), .val (.int p4), .val (.int p5), .val (.ref b1), .val (.ref bB_4), .val (.int (Int32.ofNat 256)), .val (.ref bB_4), .val (.int (1 : Int32)), .unset, .unset] [])) _
          refine XS.iload X122.here hx rfl (hb hby at_90) rfl ?_
          show Steps p.tables e below (T122.setTop (mkF m 92 #[.val (.int p1), .val (.int p2), .val (.int p3), .val (.int p4), .val (.int p5), .val (.ref b1), .val (.ref bB_4), .val (.int (Int32.ofNat 256)), .val (.ref bB_4), .val (.int (1 : Int32)), .unset, .unset] [(.int (Int32.ofNat 256))])) _
          refine XS.sipush X122.here hx rfl (hb hby at_92) ?_
          show Steps p.tables e below (T122.setTop (mkF m 95 #[.val (.int p1), .val (.int p2), .val (.int p3), .val (.int p4), .val (.int p5), .val (.ref b1), .val (.ref bB_4), .val (.int (Int32.ofNat 256)), .val (.ref bB_4), .val (.int (1 : Int32)), .unset, .unset] [(.int (16384 : Int32)), (.int (Int32.ofNat 256))])) _
          refine XS.icmpYes X122.here hx rfl (pc0 := 95) (pc' := 122) rfl (hb hby at_95) rfl (flt (own_nlt_of (by omega))).2.2.2 (by decide) (by decide) ?_
          show Steps p.tables e below (T122.setTop (mkF m 122 #[.val (.int p1), .val (.int p2), .val (.int p3), .val (.int p4), .val (.int p5), .val (.ref b1), .val (.ref bB_4), .val (.int (Int32.ofNat 256)), .val (.ref bB_4), .val (.int (1 : Int32)), .unset, .unset] [])) _
          refine XS.iload X122.here hx rfl (hb hby at_122) rfl ?_
          show Steps p.tables e below (T122.setTop (mkF m 124 #[.val (.int p1), .val (.int p2), .val (.int p3), .val (.int p4), .val (.int p5), .val (.ref b1), .val (.ref bB_4), .val (.int (Int32.ofNat 256)), .val (.ref bB_4), .val (.int (1 : Int32)), .unset, .unset] [(.int (1 : Int32))])) _
          refine XS.ifNo X122.here hx rfl (hb hby at_124) rfl ((if0 _ _).trans (feq (by decide)).1) ?_
          show Steps p.tables e below (T122.setTop (mkF m 127 #[.val (.int p1), .val (.int p2), .val (.int p3), .val (.int p4), .val (.int p5), .val (.ref b1), .val (.ref bB_4), .val (.int (Int32.ofNat 256)), .val (.ref bB_4), .val (.int (1 : Int32)), .unset, .unset] [])) _
          refine XS.aload X122.here hx rfl (hb hby at_127) rfl rfl ?_
          show Steps p.tables e below (T122.setTop (mkF m 129 #[.val (.int p1), .val (.int p2), .val (.int p3), .val (.int p4), .val (.int p5), .val (.ref b1), .val (.ref bB_4), .val (.int (Int32.ofNat 256)), .val (.ref bB_4), .val (.int (1 : Int32)), .unset, .unset] [(.ref bB_4)])) _
          refine XS.aload X122.here hx rfl (hb hby at_129) rfl rfl ?_
          show Steps p.tables e below (T122.setTop (mkF m 131 #[.val (.int p1), .val (.int p2), .val (.int p3), .val (.int p4), .val (.int p5), .val (.ref b1), .val (.ref bB_4), .val (.int (Int32.ofNat 256)), .val (.ref bB_4), .val (.int (1 : Int32)), .unset, .unset] [(.ref bB_4), (.ref bB_4)])) _
          refine Jvm.RoadKit.acmp (g := (mkF m 131 #[.val (.int p1), .val (.int p2), .val (.int p3), .val (.int p4), .val (.int p5), .val (.ref b1), .val (.ref bB_4), .val (.int (Int32.ofNat 256)), .val (.ref bB_4), .val (.int (1 : Int32)), .unset, .unset] [(.ref bB_4), (.ref bB_4)])) X122 hx rfl rfl rfl (pc0 := 131) (pc' := 134) (same := true) rfl (hb hby at_131) rfl (decide_eq_true rfl) (by decide) (by decide) ?_
          show Steps p.tables e below (T122.setTop (mkF m 134 #[.val (.int p1), .val (.int p2), .val (.int p3), .val (.int p4), .val (.int p5), .val (.ref b1), .val (.ref bB_4), .val (.int (Int32.ofNat 256)), .val (.ref bB_4), .val (.int (1 : Int32)), .unset, .unset] [])) _
          refine XS.iconst X122.here hx rfl (hb hby at_134) ?_
          show Steps p.tables e below (T122.setTop (mkF m 135 #[.val (.int p1), .val (.int p2), .val (.int p3), .val (.int p4), .val (.int p5), .val (.ref b1), .val (.ref bB_4), .val (.int (Int32.ofNat 256)), .val (.ref bB_4), .val (.int (1 : Int32)), .unset, .unset] [(.int (1 : Int32))])) _
          refine XS.goto X122.here hx rfl (pc0 := 135) (pc' := 139) rfl (hb hby at_135) (by decide) (by decide) ?_
          show Steps p.tables e below (T122.setTop (mkF m 139 #[.val (.int p1), .val (.int p2), .val (.int p3), .val (.int p4), .val (.int p5), .val (.ref b1), .val (.ref bB_4), .val (.int (Int32.ofNat 256)), .val (.ref bB_4), .val (.int (1 : Int32)), .unset, .unset] [(.int (1 : Int32))])) _
          refine XS.istore X122.here hx rfl (hb hby at_139) rfl (l' := #[.val (.int p1), .val (.int p2), .val (.int p3), .val (.int p4), .val (.int p5), .val (.ref b1), .val (.ref bB_4), .val (.int (Int32.ofNat 256)), .val (.ref bB_4), .val (.int (1 : Int32)), .unset, .unset]) rfl ?_
          show Steps p.tables e below (T122.setTop (mkF m 141 #[.val (.int p1), .val (.int p2), .val (.int p3), .val (.int p4), .val (.int p5), .val (.ref b1), .val (.ref bB_4), .val (.int (Int32.ofNat 256)), .val (.ref bB_4), .val (.int (1 : Int32)), .unset, .unset] [])) _
          refine XS.iload X122.here hx rfl (hb hby at_141) rfl ?_
          show Steps p.tables e below (T122.setTop (mkF m 143 #[.val (.int p1), .val (.int p2), .val (.int p3), .val (.int p4), .val (.int p5), .val (.ref b1), .val (.ref bB_4), .val (.int (Int32.ofNat 256)), .val (.ref bB_4), .val (.int (1 : Int32)), .unset, .unset] [(.int p5)])) _
          refine X122.ldcInt hx hown (mvT hZ (hw _ (List.mem_of_getElem? (i := 42) rfl))) (g := (mkF m 143 #[.val (.int p1), .val (.int p2), .val (.int p3), .val (.int p4), .val (.int p5), .val (.ref b1), .val (.ref bB_4), .val (.int (Int32.ofNat 256)), .val (.ref bB_4), .val (.int (1 : Int32)), .unset, .unset] [(.int p5)])) rfl (hb hby at_143) _ ?_
          show Steps p.tables e below (T122.setTop (mkF m 145 #[.val (.int p1), .val (.int p2), .val (.int p3), .val (.int p4), .val (.int p5), .val (.ref b1), .val (.ref bB_4), .val (.int (Int32.ofNat 256)), .val (.ref bB_4), .val (.int (1 : Int32)), .unset, .unset] [(.int (2147483647 : Int32)), (.int p5)])) _
          refine XS.iand X122.here hx rfl (hb hby at_145) rfl ?_
          show Steps p.tables e below (T122.setTop (mkF m 146 #[.val (.int p1), .val (.int p2), .val (.int p3), .val (.int p4), .val (.int p5), .val (.ref b1), .val (.ref bB_4), .val (.int (Int32.ofNat 256)), .val (.ref bB_4), .val (.int (1 : Int32)), .unset, .unset] [(.int (p5 &&& (2147483647 : Int32)))])) _
          refine XS.aload X122.here hx rfl (hb hby at_146) rfl rfl ?_
          exact k)
      obtain ⟨cl125, Ac125, hl125, hb125⟩ := Vb1.len
      have hlen2 := own_ofNat hb125
      have hp1 := own_p1 hlen2 hle16
      have hr2 := own_remle (p := p5) hp1
      have hs2 := own_sub0 256 (by omega)
      have ac126 : ∀ t, Steps p.tables e below (T122.setTop (mkF m 162 #[.val (.int p1), .val (.int p2), .val (.int p3), .val (.int p4), .val (.int p5), .val (.ref b1), .val (.ref bB_4), .val (.int (Int32.ofNat 256)), .val (.ref bB_4), .val (.int (1 : Int32)), .val (.int ((p5 &&& (2147483647 : Int32)) % ((Int32.ofNat 256) + (1 : Int32)))), .unset] [(.int ((p5 &&& (2147483647 : Int32)) % ((Int32.ofNat 256) + (1 : Int32)))), (.int (p4 ^^^ (-1 : Int32))), (.int p4), (.ref b1)])) t → Steps p.tables e below (s₁.setTop (entryFrame m #[(.int p1), (.int p2), (.int p3), (.int p4), (.int p5)] maxLocals)) t := fun t k => ac124 t (by
          show Steps p.tables e below (T122.setTop (mkF m 148 #[.val (.int p1), .val (.int p2), .val (.int p3), .val (.int p4), .val (.int p5), .val (.ref b1), .val (.ref bB_4), .val (.int (Int32.ofNat 256)), .val (.ref bB_4), .val (.int (1 : Int32)), .unset, .unset] [(.ref bB_4), (.int (p5 &&& (2147483647 : Int32)))])) _
          refine X122.arraylength hx (by rw [Qe122]; exact Ac125.1) (State.isArrayOf_alike hZ.alike Ac125.2.1) (g := (mkF m 148 #[.val (.int p1), .val (.int p2), .val (.int p3), .val (.int p4), .val (.int p5), .val (.ref b1), .val (.ref bB_4), .val (.int (Int32.ofNat 256)), .val (.ref bB_4), .val (.int (1 : Int32)), .unset, .unset] [(.ref bB_4), (.int (p5 &&& (2147483647 : Int32)))])) rfl rfl (hb hby at_148) _ ?_
          rw [hl125]
          show Steps p.tables e below (T122.setTop (mkF m 149 #[.val (.int p1), .val (.int p2), .val (.int p3), .val (.int p4), .val (.int p5), .val (.ref b1), .val (.ref bB_4), .val (.int (Int32.ofNat 256)), .val (.ref bB_4), .val (.int (1 : Int32)), .unset, .unset] [(.int (Int32.ofNat 256)), (.int (p5 &&& (2147483647 : Int32)))])) _
          refine XS.iconst X122.here hx rfl (hb hby at_149) ?_
          show Steps p.tables e below (T122.setTop (mkF m 150 #[.val (.int p1), .val (.int p2), .val (.int p3), .val (.int p4), .val (.int p5), .val (.ref b1), .val (.ref bB_4), .val (.int (Int32.ofNat 256)), .val (.ref bB_4), .val (.int (1 : Int32)), .unset, .unset] [(.int (1 : Int32)), (.int (Int32.ofNat 256)), (.int (p5 &&& (2147483647 : Int32)))])) _
          refine XS.iadd X122.here hx rfl (hb hby at_150) rfl ?_
          show Steps p.tables e below (T122.setTop (mkF m 151 #[.val (.int p1), .val (.int p2), .val (.int p3), .val (.int p4), .val (.int p5), .val (.ref b1), .val (.ref bB_4), .val (.int (Int32.ofNat 256)), .val (.ref bB_4), .val (.int (1 : Int32)), .unset, .unset] [(.int ((Int32.ofNat 256) + (1 : Int32))), (.int (p5 &&& (2147483647 : Int32)))])) _
          refine iremM X122 hx rfl (hb hby at_151) rfl (own_nz hp1) ?_
          show Steps p.tables e below (T122.setTop (mkF m 152 #[.val (.int p1), .val (.int p2), .val (.int p3), .val (.int p4), .val (.int p5), .val (.ref b1), .val (.ref bB_4), .val (.int (Int32.ofNat 256)), .val (.ref bB_4), .val (.int (1 : Int32)), .unset, .unset] [(.int ((p5 &&& (2147483647 : Int32)) % ((Int32.ofNat 256) + (1 : Int32))))])) _
          refine XS.istore X122.here hx rfl (hb hby at_152) rfl (l' := #[.val (.int p1), .val (.int p2), .val (.int p3), .val (.int p4), .val (.int p5), .val (.ref b1), .val (.ref bB_4), .val (.int (Int32.ofNat 256)), .val (.ref bB_4), .val (.int (1 : Int32)), .val (.int ((p5 &&& (2147483647 : Int32)) % ((Int32.ofNat 256) + (1 : Int32)))), .unset]) rfl ?_
          show Steps p.tables e below (T122.setTop (mkF m 154 #[.val (.int p1), .val (.int p2), .val (.int p3), .val (.int p4), .val (.int p5), .val (.ref b1), .val (.ref bB_4), .val (.int (Int32.ofNat 256)), .val (.ref bB_4), .val (.int (1 : Int32)), .val (.int ((p5 &&& (2147483647 : Int32)) % ((Int32.ofNat 256) + (1 : Int32)))), .unset] [])) _
          refine XS.aload X122.here hx rfl (hb hby at_154) rfl rfl ?_
          show Steps p.tables e below (T122.setTop (mkF m 156 #[.val (.int p1), .val (.int p2), .val (.int p3), .val (.int p4), .val (.int p5), .val (.ref b1), .val (.ref bB_4), .val (.int (Int32.ofNat 256)), .val (.ref bB_4), .val (.int (1 : Int32)), .val (.int ((p5 &&& (2147483647 : Int32)) % ((Int32.ofNat 256) + (1 : Int32)))), .unset] [(.ref b1)])) _
          refine XS.iloadN X122.here hx rfl (hb hby at_156) rfl ?_
          show Steps p.tables e below (T122.setTop (mkF m 157 #[.val (.int p1), .val (.int p2), .val (.int p3), .val (.int p4), .val (.int p5), .val (.ref b1), .val (.ref bB_4), .val (.int (Int32.ofNat 256)), .val (.ref bB_4), .val (.int (1 : Int32)), .val (.int ((p5 &&& (2147483647 : Int32)) % ((Int32.ofNat 256) + (1 : Int32)))), .unset] [(.int p4), (.ref b1)])) _
          refine XS.iloadN X122.here hx rfl (hb hby at_157) rfl ?_
          show Steps p.tables e below (T122.setTop (mkF m 158 #[.val (.int p1), .val (.int p2), .val (.int p3), .val (.int p4), .val (.int p5), .val (.ref b1), .val (.ref bB_4), .val (.int (Int32.ofNat 256)), .val (.ref bB_4), .val (.int (1 : Int32)), .val (.int ((p5 &&& (2147483647 : Int32)) % ((Int32.ofNat 256) + (1 : Int32)))), .unset] [(.int p4), (.int p4), (.ref b1)])) _
          refine XS.iconst X122.here hx rfl (hb hby at_158) ?_
          show Steps p.tables e below (T122.setTop (mkF m 159 #[.val (.int p1), .val (.int p2), .val (.int p3), .val (.int p4), .val (.int p5), .val (.ref b1), .val (.ref bB_4), .val (.int (Int32.ofNat 256)), .val (.ref bB_4), .val (.int (1 : Int32)), .val (.int ((p5 &&& (2147483647 : Int32)) % ((Int32.ofNat 256) + (1 : Int32)))), .unset] [(.int (-1 : Int32)), (.int p4), (.int p4), (.ref b1)])) _
          refine XS.ixor X122.here hx rfl (hb hby at_159) rfl ?_
          show Steps p.tables e below (T122.setTop (mkF m 160 #[.val (.int p1), .val (.int p2), .val (.int p3), .val (.int p4), .val (.int p5), .val (.ref b1), .val (.ref bB_4), .val (.int (Int32.ofNat 256)), .val (.ref bB_4), .val (.int (1 : Int32)), .val (.int ((p5 &&& (2147483647 : Int32)) % ((Int32.ofNat 256) + (1 : Int32)))), .unset] [(.int (p4 ^^^ (-1 : Int32))), (.int p4), (.ref b1)])) _
          refine XS.iload X122.here hx rfl (hb hby at_160) rfl ?_
          exact k)
      obtain ⟨cq127, kq127, q127a, q127b, q127c⟩ := isOf hZ Qe122 HB115.1
      obtain ⟨_, _, ⟨T127, L127, k127, n127⟩, -, X127, ⟨Lc127, hQ127, l127, y127, z127⟩, st127⟩ := X122.virtualBack hx (y := (⟨"com/example/termwright/termwright/TokenList", "add", "(III)I"⟩ : MethodName)) (z := (⟨"com/example/termwright/termwright/TokenList", "add", "(III)I"⟩ : MethodName)) hown (mvT hZ (hw _ (List.mem_of_getElem? (i := 43) rfl))) (mvT hZ (hw _ (List.mem_of_getElem? (i := 44) rfl))) (notFace_of_selects (args := #[]) (mvT hZ (hw _ (List.mem_of_getElem? (i := 46) rfl)))) (mvT hZ (hw _ (List.mem_of_getElem? (i := 46) rfl))) (mvT hZ (hw _ (List.mem_of_getElem? (i := 45) rfl))) (by decide) (backOf (W := 0) (rm6n l Z a0 hw [] b1 p4 (p4 ^^^ (-1 : Int32)) ((p5 &&& (2147483647 : Int32)) % ((Int32.ofNat 256) + (1 : Int32))) _ _ _ _ _ _ _ _ _ _ _ _ _  T115.heap n0 Z115 HB115 g_b1 (own_nlt_of (by omega))) hZ (hw _ (List.mem_of_getElem? (i := 47) rfl)) (hw _ (List.mem_of_getElem? (i := 2) rfl)) (by decide) (by decide)) q127a q127c (g := (mkF m 162 #[.val (.int p1), .val (.int p2), .val (.int p3), .val (.int p4), .val (.int p5), .val (.ref b1), .val (.ref bB_4), .val (.int (Int32.ofNat 256)), .val (.ref bB_4), .val (.int (1 : Int32)), .val (.int ((p5 &&& (2147483647 : Int32)) % ((Int32.ofNat 256) + (1 : Int32)))), .unset] [(.int ((p5 &&& (2147483647 : Int32)) % ((Int32.ofNat 256) + (1 : Int32)))), (.int (p4 ^^^ (-1 : Int32))), (.int p4), (.ref b1)])) rfl (by rw [hml]; rfl) (Steps.refl _) (argsL := [(.int p4), (.int (p4 ^^^ (-1 : Int32))), (.int ((p5 &&& (2147483647 : Int32)) % ((Int32.ofNat 256) + (1 : Int32))))]) (rest := []) (lenOf pd_3 rfl) rfl (by show 2 * 0 + _ ≤ _; exact Nat.le_of_eq rfl) (hb hby at_162) (fun _ _ => ⟨rfl, Qe122, (by decide : 7 + 0 ≤ _), (by decide : 344 + 0 ≤ _)⟩)
      dsimp only [Pt.U, Pt.locs, Pt.cells, Pt.slots] at X127 l127 y127 z127 st127 hQ127
      subst l127 y127 z127
      obtain ⟨f1_127, f2_127, f3_127, f4_127, f5_127, rfl, N127q, K127q, hf127, HB127⟩ := hQ127
      have N127 := Fr.app N122 N127q
      have Ef128 := HB115.1.keep K127q
      have Z127 : n0 ≤ T127.heap.size := Nat.le_trans Z115 K127q.1
      have ac129 : ∀ t, Steps p.tables e below (T127.setTop (mkF m 165 #[.val (.int p1), .val (.int p2), .val (.int p3), .val (.int p4), .val (.int p5), .val (.ref b1), .val (.ref bB_4), .val (.int (Int32.ofNat 256)), .val (.ref bB_4), .val (.int (1 : Int32)), .val (.int ((p5 &&& (2147483647 : Int32)) % ((Int32.ofNat 256) + (1 : Int32)))), .unset] [(.int (0 : Int32))])) t → Steps p.tables e below (s₁.setTop (entryFrame m #[(.int p1), (.int p2), (.int p3), (.int p4), (.int p5)] maxLocals)) t := fun t k => ac126 t (st127.trans k)
      have ac130 : ∀ t, Steps p.tables e below (T127.setTop (mkF m 179 #[.val (.int p1), .val (.int p2), .val (.int p3), .val (.int p4), .val (.int p5), .val (.ref b1), .val (.ref bB_4), .val (.int (Int32.ofNat 256)), .val (.ref bB_4), .val (.int (1 : Int32)), .val (.int ((p5 &&& (2147483647 : Int32)) % ((Int32.ofNat 256) + (1 : Int32)))), .val (.int (0 : Int32))] [(.ref b1)])) t → Steps p.tables e below (s₁.setTop (entryFrame m #[(.int p1), (.int p2), (.int p3), (.int p4), (.int p5)] maxLocals)) t := fun t k => ac129 t (by
          show Steps p.tables e below (T127.setTop (mkF m 165 #[.val (.int p1), .val (.int p2), .val (.int p3), .val (.int p4), .val (.int p5), .val (.ref b1), .val (.ref bB_4), .val (.int (Int32.ofNat 256)), .val (.ref bB_4), .val (.int (1 : Int32)), .val (.int ((p5 &&& (2147483647 : Int32)) % ((Int32.ofNat 256) + (1 : Int32)))), .unset] [(.int (0 : Int32))])) _
          refine XS.istore X127.here hx rfl (hb hby at_165) rfl (l' := #[.val (.int p1), .val (.int p2), .val (.int p3), .val (.int p4), .val (.int p5), .val (.ref b1), .val (.ref bB_4), .val (.int (Int32.ofNat 256)), .val (.ref bB_4), .val (.int (1 : Int32)), .val (.int ((p5 &&& (2147483647 : Int32)) % ((Int32.ofNat 256) + (1 : Int32)))), .val (.int (0 : Int32))]) rfl ?_
          show Steps p.tables e below (T127.setTop (mkF m 167 #[.val (.int p1), .val (.int p2), .val (.int p3), .val (.int p4), .val (.int p5), .val (.ref b1), .val (.ref bB_4), .val (.int (Int32.ofNat 256)), .val (.ref bB_4), .val (.int (1 : Int32)), .val (.int ((p5 &&& (2147483647 : Int32)) % ((Int32.ofNat 256) + (1 : Int32)))), .val (.int (0 : Int32))] [])) _
          refine XS.iload X127.here hx rfl (hb hby at_167) rfl ?_
          show Steps p.tables e below (T127.setTop (mkF m 169 #[.val (.int p1), .val (.int p2), .val (.int p3), .val (.int p4), .val (.int p5), .val (.ref b1), .val (.ref bB_4), .val (.int (Int32.ofNat 256)), .val (.ref bB_4), .val (.int (1 : Int32)), .val (.int ((p5 &&& (2147483647 : Int32)) % ((Int32.ofNat 256) + (1 : Int32)))), .val (.int (0 : Int32))] [(.int (1 : Int32))])) _
          refine XS.ifNo X127.here hx rfl (hb hby at_169) rfl ((if0 _ _).trans (feq (by decide)).1) ?_
          show Steps p.tables e below (T127.setTop (mkF m 172 #[.val (.int p1), .val (.int p2), .val (.int p3), .val (.int p4), .val (.int p5), .val (.ref b1), .val (.ref bB_4), .val (.int (Int32.ofNat 256)), .val (.ref bB_4), .val (.int (1 : Int32)), .val (.int ((p5 &&& (2147483647 : Int32)) % ((Int32.ofNat 256) + (1 : Int32)))), .val (.int (0 : Int32))] [])) _
          refine XS.iload X127.here hx rfl (hb hby at_172) rfl ?_
          show Steps p.tables e below (T127.setTop (mkF m 174 #[.val (.int p1), .val (.int p2), .val (.int p3), .val (.int p4), .val (.int p5), .val (.ref b1), .val (.ref bB_4), .val (.int (Int32.ofNat 256)), .val (.ref bB_4), .val (.int (1 : Int32)), .val (.int ((p5 &&& (2147483647 : Int32)) % ((Int32.ofNat 256) + (1 : Int32)))), .val (.int (0 : Int32))] [(.int (0 : Int32))])) _
          refine XS.ifNo X127.here hx rfl (hb hby at_174) rfl ((if0 _ _).trans (teq rfl).2) ?_
          show Steps p.tables e below (T127.setTop (mkF m 177 #[.val (.int p1), .val (.int p2), .val (.int p3), .val (.int p4), .val (.int p5), .val (.ref b1), .val (.ref bB_4), .val (.int (Int32.ofNat 256)), .val (.ref bB_4), .val (.int (1 : Int32)), .val (.int ((p5 &&& (2147483647 : Int32)) % ((Int32.ofNat 256) + (1 : Int32)))), .val (.int (0 : Int32))] [])) _
          refine XS.aload X127.here hx rfl (hb hby at_177) rfl rfl ?_
          exact k)
      obtain ⟨cq131, kq131, q131a, q131b, q131c⟩ := isOf hZ rfl HB127.1
      obtain ⟨_, _, ⟨T131, L131, k131, n131⟩, -, X131, ⟨Lc131, hQ131, l131, y131, z131⟩, st131⟩ := X127.virtualBack hx (y := (⟨"com/example/termwright/termwright/TokenList", "termBytes", "()[B"⟩ : MethodName)) (z := (⟨"com/example/termwright/termwright/TokenList", "termBytes", "()[B"⟩ : MethodName)) hown (mvT hZ (hw _ (List.mem_of_getElem? (i := 23) rfl))) (mvT hZ (hw _ (List.mem_of_getElem? (i := 24) rfl))) (notFace_of_selects (args := #[]) (mvT hZ (hw _ (List.mem_of_getElem? (i := 26) rfl)))) (mvT hZ (hw _ (List.mem_of_getElem? (i := 26) rfl))) (mvT hZ (hw _ (List.mem_of_getElem? (i := 25) rfl))) (by decide) (backOf (W := 0) (rm3 l Z a0 hw [] b1 _ _ _ _ _ _ _ _ _ _ _ _ _ _ _  T127.heap n0 Z127 HB127) hZ (hw _ (List.mem_of_getElem? (i := 27) rfl)) (hw _ (List.mem_of_getElem? (i := 2) rfl)) (by decide) (by decide)) q131a q131c (g := (mkF m 179 #[.val (.int p1), .val (.int p2), .val (.int p3), .val (.int p4), .val (.int p5), .val (.ref b1), .val (.ref bB_4), .val (.int (Int32.ofNat 256)), .val (.ref bB_4), .val (.int (1 : Int32)), .val (.int ((p5 &&& (2147483647 : Int32)) % ((Int32.ofNat 256) + (1 : Int32)))), .val (.int (0 : Int32))] [(.ref b1)])) rfl (by rw [hml]; rfl) (Steps.refl _) (argsL := []) (rest := []) (lenOf pd_1 rfl) rfl (by show 2 * 0 + _ ≤ _; exact Nat.le_of_eq rfl) (hb hby at_179) (fun _ _ => ⟨rfl, rfl, (by decide : 7 + 0 ≤ _), (by decide : 344 + 0 ≤ _)⟩)
      dsimp only [Pt.U, Pt.locs, Pt.cells, Pt.slots] at X131 l131 y131 z131 st131 hQ131
      subst l131 y131 z131
      obtain ⟨rfl, N131q, Qe131⟩ := hQ131
      have N131 := Fr.app N127 N131q
      have ac132 : ∀ t, Steps p.tables e below (T131.setTop (mkF m 182 #[.val (.int p1), .val (.int p2), .val (.int p3), .val (.int p4), .val (.int p5), .val (.ref b1), .val (.ref bB_4), .val (.int (Int32.ofNat 256)), .val (.ref bB_4), .val (.int (1 : Int32)), .val (.int ((p5 &&& (2147483647 : Int32)) % ((Int32.ofNat 256) + (1 : Int32)))), .val (.int (0 : Int32))] [(.ref bB_4)])) t → Steps p.tables e below (s₁.setTop (entryFrame m #[(.int p1), (.int p2), (.int p3), (.int p4), (.int p5)] maxLocals)) t := fun t k => ac130 t (st131.trans k)
      have ac133 : ∀ t, Steps p.tables e below (T131.setTop (mkF m 190 #[.val (.int p1), .val (.int p2), .val (.int p3), .val (.int p4), .val (.int p5), .val (.ref b1), .val (.ref bB_4), .val (.int (Int32.ofNat 256)), .val (.ref bB_4), .val (.int (1 : Int32)), .val (.int ((p5 &&& (2147483647 : Int32)) % ((Int32.ofNat 256) + (1 : Int32)))), .val (.int (0 : Int32))] [(.int (0 : Int32)), (.ref b1)])) t → Steps p.tables e below (s₁.setTop (entryFrame m #[(.int p1), (.int p2), (.int p3), (.int p4), (.int p5)] maxLocals)) t := fun t k => ac132 t (by
          show Steps p.tables e below (T131.setTop (mkF m 182 #[.val (.int p1), .val (.int p2), .val (.int p3), .val (.int p4), .val (.int p5), .val (.ref b1), .val (.ref bB_4), .val (.int (Int32.ofNat 256)), .val (.ref bB_4), .val (.int (1 : Int32)), .val (.int ((p5 &&& (2147483647 : Int32)) % ((Int32.ofNat 256) + (1 : Int32)))), .val (.int (0 : Int32))] [(.ref bB_4)])) _
          refine XS.aload X131.here hx rfl (hb hby at_182) rfl rfl ?_
          show Steps p.tables e below (T131.setTop (mkF m 184 #[.val (.int p1), .val (.int p2), .val (.int p3), .val (.int p4), .val (.int p5), .val (.ref b1), .val (.ref bB_4), .val (.int (Int32.ofNat 256)), .val (.ref bB_4), .val (.int (1 : Int32)), .val (.int ((p5 &&& (2147483647 : Int32)) % ((Int32.ofNat 256) + (1 : Int32)))), .val (.int (0 : Int32))] [(.ref bB_4), (.ref bB_4)])) _
          refine Jvm.RoadKit.acmp (g := (mkF m 184 #[.val (.int p1), .val (.int p2), .val (.int p3), .val (.int p4), .val (.int p5), .val (.ref b1), .val (.ref bB_4), .val (.int (Int32.ofNat 256)), .val (.ref bB_4), .val (.int (1 : Int32)), .val (.int ((p5 &&& (2147483647 : Int32)) % ((Int32.ofNat 256) + (1 : Int32)))), .val (.int (0 : Int32))] [(.ref bB_4), (.ref bB_4)])) X131 hx rfl rfl rfl (pc0 := 184) (pc' := 187) (same := true) rfl (hb hby at_184) rfl (decide_eq_true rfl) (by decide) (by decide) ?_
          show Steps p.tables e below (T131.setTop (mkF m 187 #[.val (.int p1), .val (.int p2), .val (.int p3), .val (.int p4), .val (.int p5), .val (.ref b1), .val (.ref bB_4), .val (.int (Int32.ofNat 256)), .val (.ref bB_4), .val (.int (1 : Int32)), .val (.int ((p5 &&& (2147483647 : Int32)) % ((Int32.ofNat 256) + (1 : Int32)))), .val (.int (0 : Int32))] [])) _
          refine XS.aload X131.here hx rfl (hb hby at_187) rfl rfl ?_
          show Steps p.tables e below (T131.setTop (mkF m 189 #[.val (.int p1), .val (.int p2), .val (.int p3), .val (.int p4), .val (.int p5), .val (.ref b1), .val (.ref bB_4), .val (.int (Int32.ofNat 256)), .val (.ref bB_4), .val (.int (1 : Int32)), .val (.int ((p5 &&& (2147483647 : Int32)) % ((Int32.ofNat 256) + (1 : Int32)))), .val (.int (0 : Int32))] [(.ref b1)])) _
          refine XS.iconst X131.here hx rfl (hb hby at_189) ?_
          exact k)
      obtain ⟨cq134, kq134, q134a, q134b, q134c⟩ := isOf hZ Qe131 HB127.1
      obtain ⟨_, _, ⟨T134, L134, k134, n134⟩, -, X134, ⟨Lc134, hQ134, l134, y134, z134⟩, st134⟩ := X131.virtualBack hx (y := (⟨"com/example/termwright/termwright/TokenList", "start", "(I)I"⟩ : MethodName)) (z := (⟨"com/example/termwright/termwright/TokenList", "start", "(I)I"⟩ : MethodName)) hown (mvT hZ (hw _ (List.mem_of_getElem? (i := 52) rfl))) (mvT hZ (hw _ (List.mem_of_getElem? (i := 53) rfl))) (notFace_of_selects (args := #[]) (mvT hZ (hw _ (List.mem_of_getElem? (i := 55) rfl)))) (mvT hZ (hw _ (List.mem_of_getElem? (i := 55) rfl))) (mvT hZ (hw _ (List.mem_of_getElem? (i := 54) rfl))) (by decide) (backOf (W := 0) (rm8 l Z a0 hw [] b1 (0 : Int32) _ _ _ _ _ _ _ _ _ _ _ _ _ _ _ p4 T127.heap n0 Z127 HB127 rfl hf127) hZ (hw _ (List.mem_of_getElem? (i := 56) rfl)) (hw _ (List.mem_of_getElem? (i := 2) rfl)) (by decide) (by decide)) q134a q134c (g := (mkF m 190 #[.val (.int p1), .val (.int p2), .val (.int p3), .val (.int p4), .val (.int p5), .val (.ref b1), .val (.ref bB_4), .val (.int (Int32.ofNat 256)), .val (.ref bB_4), .val (.int (1 : Int32)), .val (.int ((p5 &&& (2147483647 : Int32)) % ((Int32.ofNat 256) + (1 : Int32)))), .val (.int (0 : Int32))] [(.int (0 : Int32)), (.ref b1)])) rfl (by rw [hml]; rfl) (Steps.refl _) (argsL := [(.int (0 : Int32))]) (rest := []) (lenOf pd_5 rfl) rfl (by show 2 * 0 + _ ≤ _; exact Nat.le_of_eq rfl) (hb hby at_190) (fun _ _ => ⟨rfl, Qe131, (by decide : 7 + 0 ≤ _), (by decide : 344 + 0 ≤ _)⟩)
      dsimp only [Pt.U, Pt.locs, Pt.cells, Pt.slots] at X134 l134 y134 z134 st134 hQ134
      subst l134 y134 z134
      obtain ⟨rfl, N134q, Qe134⟩ := hQ134
      have N134 := Fr.app N131 N134q
      have ac135 : ∀ t, Steps p.tables e below (T134.setTop (mkF m 193 #[.val (.int p1), .val (.int p2), .val (.int p3), .val (.int p4), .val (.int p5), .val (.ref b1), .val (.ref bB_4), .val (.int (Int32.ofNat 256)), .val (.ref bB_4), .val (.int (1 : Int32)), .val (.int ((p5 &&& (2147483647 : Int32)) % ((Int32.ofNat 256) + (1 : Int32)))), .val (.int (0 : Int32))] [(.int p4)])) t → Steps p.tables e below (s₁.setTop (entryFrame m #[(.int p1), (.int p2), (.int p3), (.int p4), (.int p5)] maxLocals)) t := fun t k => ac133 t (st134.trans k)
      have ac136 : ∀ t, Steps p.tables e below (T134.setTop (mkF m 206 #[.val (.int p1), .val (.int p2), .val (.int p3), .val (.int p4), .val (.int p5), .val (.ref b1), .val (.ref bB_4), .val (.int (Int32.ofNat 256)), .val (.ref bB_4), .val (.int (1 : Int32)), .val (.int ((p5 &&& (2147483647 : Int32)) % ((Int32.ofNat 256) + (1 : Int32)))), .val (.int (0 : Int32))] [(.int (1 : Int32))])) t → Steps p.tables e below (s₁.setTop (entryFrame m #[(.int p1), (.int p2), (.int p3), (.int p4), (.int p5)] maxLocals)) t := fun t k => ac135 t (by
          show Steps p.tables e below (T134.setTop (mkF m 193 #[.val (.int p1), .val (.int p2), .val (.int p3), .val (.int p4), .val (.int p5), .val (.ref b1), .val (.ref bB_4), .val (.int (Int32.ofNat 256)), .val (.ref bB_4), .val (.int (1 : Int32)), .val (.int ((p5 &&& (2147483647 : Int32)) % ((Int32.ofNat 256) + (1 : Int32)))), .val (.int (0 : Int32))] [(.int p4)])) _
          refine XS.iloadN X134.here hx rfl (hb hby at_193) rfl ?_
          show Steps p.tables e below (T134.setTop (mkF m 194 #[.val (.int p1), .val (.int p2), .val (.int p3), .val (.int p4), .val (.int p5), .val (.ref b1), .val (.ref bB_4), .val (.int (Int32.ofNat 256)), .val (.ref bB_4), .val (.int (1 : Int32)), .val (.int ((p5 &&& (2147483647 : Int32)) % ((Int32.ofNat 256) + (1 : Int32)))), .val (.int (0 : Int32))] [(.int p4), (.int p4)])) _
          refine XS.icmpNo X134.here hx rfl (hb hby at_194) rfl (teq rfl).2 ?_
          show Steps p.tables e below (T134.setTop (mkF m 197 #[.val (.int p1), .val (.int p2), .val (.int p3), .val (.int p4), .val (.int p5), .val (.ref b1), .val (.ref bB_4), .val (.int (Int32.ofNat 256)), .val (.ref bB_4), .val (.int (1 : Int32)), .val (.int ((p5 &&& (2147483647 : Int32)) % ((Int32.ofNat 256) + (1 : Int32)))), .val (.int (0 : Int32))] [])) _
          refine XS.iconst X134.here hx rfl (hb hby at_197) ?_
          show Steps p.tables e below (T134.setTop (mkF m 198 #[.val (.int p1), .val (.int p2), .val (.int p3), .val (.int p4), .val (.int p5), .val (.ref b1), .val (.ref bB_4), .val (.int (Int32.ofNat 256)), .val (.ref bB_4), .val (.int (1 : Int32)), .val (.int ((p5 &&& (2147483647 : Int32)) % ((Int32.ofNat 256) + (1 : Int32)))), .val (.int (0 : Int32))] [(.int (1 : Int32))])) _
          refine XS.goto X134.here hx rfl (pc0 := 198) (pc' := 202) rfl (hb hby at_198) (by decide) (by decide) ?_
          show Steps p.tables e below (T134.setTop (mkF m 202 #[.val (.int p1), .val (.int p2), .val (.int p3), .val (.int p4), .val (.int p5), .val (.ref b1), .val (.ref bB_4), .val (.int (Int32.ofNat 256)), .val (.ref bB_4), .val (.int (1 : Int32)), .val (.int ((p5 &&& (2147483647 : Int32)) % ((Int32.ofNat 256) + (1 : Int32)))), .val (.int (0 : Int32))] [(.int (1 : Int32))])) _
          refine XS.istore X134.here hx rfl (hb hby at_202) rfl (l' := #[.val (.int p1), .val (.int p2), .val (.int p3), .val (.int p4), .val (.int p5), .val (.ref b1), .val (.ref bB_4), .val (.int (Int32.ofNat 256)), .val (.ref bB_4), .val (.int (1 : Int32)), .val (.int ((p5 &&& (2147483647 : Int32)) % ((Int32.ofNat 256) + (1 : Int32)))), .val (.int (0 : Int32))]) rfl ?_
          show Steps p.tables e below (T134.setTop (mkF m 204 #[.val (.int p1), .val (.int p2), .val (.int p3), .val (.int p4), .val (.int p5), .val (.ref b1), .val (.ref bB_4), .val (.int (Int32.ofNat 256)), .val (.ref bB_4), .val (.int (1 : Int32)), .val (.int ((p5 &&& (2147483647 : Int32)) % ((Int32.ofNat 256) + (1 : Int32)))), .val (.int (0 : Int32))] [])) _
          refine XS.iload X134.here hx rfl (hb hby at_204) rfl ?_
          exact k)
      obtain ⟨fs, hr, hrun, hended, hW, hsame⟩ := X134.leave (v := some (.int (1 : Int32))) (fun h => by rw [Bd.returns] at h; cases h) (BodyLoose.notSynchronized Bd)
      refine ⟨_, _, ac136 _ ?_, hrun, hended, _, _, rfl, ?_, ⟨_, rfl⟩, hW, hsame.mono (by decide) (by decide)⟩
      · show Steps p.tables e below (T134.setTop (mkF m 206 #[.val (.int p1), .val (.int p2), .val (.int p3), .val (.int p4), .val (.int p5), .val (.ref b1), .val (.ref bB_4), .val (.int (Int32.ofNat 256)), .val (.ref bB_4), .val (.int (1 : Int32)), .val (.int ((p5 &&& (2147483647 : Int32)) % ((Int32.ofNat 256) + (1 : Int32)))), .val (.int (0 : Int32))] [(.int (1 : Int32))])) _
        exact retN X134 hx (t := .boolean) Bd.returns (by simp) (hb hby at_206) hr
      · show Q0 Z p1 p2 p3 p4 p5 h0 n0 _ T134.heap _
        rw [Qe134]
        exact ⟨rfl, N134⟩
set_option maxRecDepth 65536 in
set_option maxHeartbeats 40000000 in
theorem comes_1 {Post : Tables → Env → Array Value → State → Outcome → State → Prop} (hpost : ∀ tb e args s v u, (limb_1_1.after args s (.returned v) u = true ∧ limb_1_2.after args s (.returned v) u = true ∧ True) → FrameEnd s (.returned v) u (Jvm.fieldLocs frame_1_writes args s ++ Jvm.arrayLocs frame_1_arrays args s ++ Jvm.staticLocs frame_1_statics s) 32 164608 → Post tb e args s (.returned v) u) :
    ArmFor flags0 classFile x code maxLocals ret World_1 tables_1 room_1 Calls_1 rest_1 Pre_1 Post := by
  intro l hfl _ _ p e ha hc hk s m args below hf hA hF happ hP
  obtain ⟨hcalls, hrest, hpre⟩ := hP
  obtain ⟨-, -, -, hnamed, -, -, -, hat⟩ := (Spec.applies_iff hf).mp happ
  obtain ⟨hg, hn⟩ := and_e (Cond.before_iff.mp (show (Jvm.Cond.and given_1 narrow_1).before args s = true from hpre))
  obtain ⟨hcnt, hk0⟩ := and_e hg
  obtain ⟨g0, hk1⟩ := and_e hk0
  obtain ⟨g1, hk2⟩ := and_e hk1
  obtain ⟨g2, hk3⟩ := and_e hk2
  obtain ⟨g3, hk4⟩ := and_e hk3
  have g4 := hk4
  obtain ⟨w0, w1, w2, w3, w4, rfl⟩ : ∃ w0 w1 w2 w3 w4 : Value, args = #[w0, w1, w2, w3, w4] := by
    have hs : args.size = 5 := by simpa [Cond.value, given_1] using hcnt
    obtain ⟨L⟩ := args
    match L, hs with
    | [w0, w1, w2, w3, w4], _ => exact ⟨w0, w1, w2, w3, w4, rfl⟩
  have hw := fun d (hd : d ∈ tables_1) => atoms_spec (ws := Jvm.Cond.code x code maxLocals ret :: tables_1) hat d (List.mem_cons_of_mem _ hd)
  have hfit : Fit s := fun {y c} hc i hi => by
    obtain ⟨ha, rfl⟩ := Array.getElem?_eq_some_iff.mp hc
    have q := List.all_eq_true.mp ((Array.all_eq_true_iff_forall_mem.mp hF) _ (Array.getElem_mem ha)) i (List.mem_range.mpr hi)
    simpa [Array.getElem?_eq_getElem hi] using q
  obtain ⟨i0, ei0⟩ := is_v g0
  obtain rfl : w0 = (.int i0) := Option.some.inj ei0
  obtain ⟨i1, ei1⟩ := is_v g1
  obtain rfl : w1 = (.int i1) := Option.some.inj ei1
  obtain ⟨i2, ei2⟩ := is_v g2
  obtain rfl : w2 = (.int i2) := Option.some.inj ei2
  obtain ⟨i3, ei3⟩ := is_v g3
  obtain rfl : w3 = (.int i3) := Option.some.inj ei3
  obtain ⟨i4, ei4⟩ := is_v g4
  obtain rfl : w4 = (.int i4) := Option.some.inj ei4
  obtain ⟨n, o, h1, h2, h3, _, L, rfl, ⟨rfl, N⟩, hq⟩ := rm0 l s _ hw tables_1 i0 i1 i2 i3 i4  s.heap s.heap.size (Nat.le_refl _)  p e ha hc hk s m _ below hf ((Spec.applies_iff_loose hf).mp happ).1 ⟨rfl, State.Warmed39.refl s, rfl⟩ trivial
  refine ⟨n, _, h1, h2, h3, hpost _ _ _ _ _ _ ⟨Cond.after_iff.mpr rfl, Cond.after_iff.mpr (eq_i res_at (Term.int_eval (1)) rfl), trivial⟩ ⟨hq.1, hq.2.1, (hq.2.2.sift fun y hy => Or.inr (N y hy)).mono (by decide) (by decide)⟩⟩
theorem main_1_1 : Claimed_1_1 := comes_1 fun _ _ _ _ _ _ h hF => ⟨h.1, hF⟩
theorem main_1_2 : Claimed_1_2 := comes_1 fun _ _ _ _ _ _ h hF => ⟨h.2.1, hF⟩
end Jvm.Pilot.@@N@@
namespace Jvm.Pilot.@@N@@
open Jvm Jvm.ClassFile Sem Op Lib Jvm.Free Jvm.Stand Jvm.Pilot.@@N@@.Jvm.D
/-! MADE BY PROGRAM (witnessworld.py) out of the Statement's table words and the real class files: 12 classes; the members and pool entries that the words name. The judged class is class 1, her method 1. -/
namespace start1
open Jvm.ClassFile
def u (s : String) : CpInfo := .utf8 (stringToUtf16 s)
/-- a pool by its gaps: so many unusable entries, then the entry; so many at the end -/
def gap : Nat → List CpInfo → List CpInfo
  | 0, r => r
  | n + 1, r => .unusable :: gap n r
def poolList (es : List (Nat × CpInfo)) (last : Nat) : List CpInfo := es.foldr (fun e r => gap e.1 (e.2 :: r)) (gap last [])
def pool (es : List (Nat × CpInfo)) (last : Nat) : Array CpInfo := ⟨poolList es last⟩
def fileOf (pool : Array CpInfo) (this : Nat) (attrs : Array Attribute := #[]) (ms : Array MethodInfo := #[]) (fl : Nat := 33) (sup : Nat := 0) (ifs : Array Nat := #[]) (fds : Array FieldInfo := #[]) : ClassFile where
  minorVersion := 0
  majorVersion := 65
  constantPool := pool
  accessFlags := fl
  thisClass := this
  superClass := sup
  interfaces := ifs
  fields := fds
  methods := ms
  attributes := attrs
def plain (name : String) (sup : Option ClassId) : Class where
  name := name
  kind := .ordinary
  loader := none
  accessFlags := 33
  super := sup
  interfaces := #[]
  cf := none
  fields := #[]
  methods := #[]
  instanceTypes := #[]
  staticTypes := #[]
  resolved := #[]
  callSites := []
  init := .initialized
  statics := none
  mirror := none

def pool0 : Array CpInfo := pool [(5, u "<init>"), (0, u "()V"), (1, .class_ 10), (1, u "java/lang/Object")] 113

def k0c0 : Code := { maxStack := 0, maxLocals := 1, code := object_method_1_code, exceptionTable := #[], attributes := #[] }
def k0m0 : Method := { name := "<init>", desc := "()V", sig := { parameters := [], returnType := none }, accessFlags := 1, code := some k0c0 }
/-- java/lang/Object -/
def k0 : Class := { plain "java/lang/Object" none with
  accessFlags := 33
  interfaces := #[]
  cf := some (fileOf pool0 8 #[] #[{ accessFlags := 1, nameIndex := 5, descriptorIndex := 6, attributes := #[] }] 33 0 #[] #[])
  fields := #[]
  methods := #[k0m0]
  instanceTypes := #[]
  staticTypes := #[]
  resolved := Array.replicate 124 none
  statics := none }

def pool1 : Array CpInfo := pool [(2, .class_ 4), (0, .nameAndType 5 6), (0, u "java/lang/Object"), (0, u "<init>"), (0, u "()V"), (0, .class_ 8), (0, u "com/example/termwright/termwright/TokenList"), (0, .methodref 7 3), (0, .integer 65535), (0, .methodref 7 12), (0, .nameAndType 13 14), (0, u "add"), (0, u "(III)I"), (0, .integer 2147483647), (0, .methodref 7 17), (0, .nameAndType 18 19), (0, u "endTerm"), (0, u "(II)V"), (0, .methodref 7 21), (0, .nameAndType 22 23), (0, u "termBytes"), (0, u "()[B"), (0, .methodref 7 25), (0, .nameAndType 26 6), (0, u "clear"), (0, .methodref 7 28), (0, .nameAndType 29 30), (0, u "size"), (0, u "()I"), (0, .methodref 7 32), (0, .nameAndType 33 34), (0, u "start"), (0, u "(I)I"), (0, .class_ 36), (0, u "com/example/termwright/termwright/TokenListClearPinLaw"), (2, u "law"), (0, u "(IIIII)Z")] 5

def k1m0 : Method := { name := "<init>", desc := "()V", sig := { parameters := [], returnType := none }, accessFlags := 1, code := none }
def k1c1 : Code := { maxStack := 4, maxLocals := 12, code := code, exceptionTable := #[], attributes := #[] }
def k1m1 : Method := { name := "law", desc := "(IIIII)Z", sig := { parameters := [.int, .int, .int, .int, .int], returnType := some .boolean }, accessFlags := 9, code := some k1c1 }
/-- com/example/termwright/termwright/TokenListClearPinLaw -/
def k1 : Class := { plain "com/example/termwright/termwright/TokenListClearPinLaw" (some 0) with
  accessFlags := 49
  interfaces := #[]
  cf := some (fileOf pool1 35 #[] #[{ accessFlags := 1, nameIndex := 5, descriptorIndex := 6, attributes := #[] }, { accessFlags := 9, nameIndex := 39, descriptorIndex := 40, attributes := #[] }] 49 2 #[] #[])
  fields := #[]
  methods := #[k1m0, k1m1]
  instanceTypes := #[]
  staticTypes := #[]
  resolved := Array.replicate 46 none
  statics := none }

def pool2 : Array CpInfo := pool [(1, .methodref 2 3), (0, .class_ 4), (0, .nameAndType 5 6), (0, u "java/lang/Object"), (0, u "<init>"), (0, u "()V"), (0, .class_ 8), (0, u "com/example/termwright/termwright/TokenList"), (0, .fieldref 7 10), (0, .nameAndType 11 12), (0, u "starts"), (0, u "[I"), (0, .fieldref 7 14), (0, .nameAndType 15 12), (0, u "ends"), (0, .fieldref 7 17), (0, .nameAndType 18 12), (0, u "termStarts"), (0, .fieldref 7 20), (0, .nameAndType 21 12), (0, u "termEnds"), (0, .fieldref 7 23), (0, .nameAndType 24 12), (0, u "termChars"), (0, .fieldref 7 26), (0, .nameAndType 27 28), (0, u "termBytes"), (0, u "[B"), (0, .fieldref 7 30), (0, .nameAndType 31 32), (0, u "size"), (0, u "I"), (0, .fieldref 7 34), (0, .nameAndType 35 32), (0, u "termBytesUsed"), (0, .methodref 7 37), (0, .nameAndType 38 39), (0, u "grownLength"), (0, u "(IJ)I"), (1, .class_ 43), (1, u "java/util/Arrays"), (0, u "copyOf"), (1, .methodref 7 47), (0, .nameAndType 48 49), (0, u "makeRoom"), (0, u "(I)V"), (5, u "()I"), (25, u "endTerm"), (0, u "(II)V"), (0, .methodref 41 84), (0, .nameAndType 44 85), (0, u "([BI)[B"), (2, .long 2147483639), (1, .long 2), (1, .methodref 93 94), (0, .class_ 95), (0, .nameAndType 96 97), (0, u "java/lang/Math"), (0, u "min"), (0, u "(JJ)J"), (0, .methodref 93 99), (0, .nameAndType 100 97), (0, u "max"), (0, u "KEPT_TOKENS"), (2, u "KEPT_TERM_BYTES"), (1, u "FIRST_TOKENS"), (1, u "FIRST_TERM_BYTES"), (1, u "NO_TERM"), (3, u "clear"), (1, u "start"), (0, u "(I)I"), (3, u "()[B"), (2, u "add"), (0, u "(III)I")] 4

def k2c0 : Code := { maxStack := 2, maxLocals := 1, code := prog_224_method_1_code, exceptionTable := #[], attributes := #[] }
def k2m0 : Method := { name := "<init>", desc := "()V", sig := { parameters := [], returnType := none }, accessFlags := 0, code := some k2c0 }
def k2c1 : Code := { maxStack := 2, maxLocals := 1, code := prog_224_method_2_code, exceptionTable := #[], attributes := #[] }
def k2m1 : Method := { name := "clear", desc := "()V", sig := { parameters := [], returnType := none }, accessFlags := 0, code := some k2c1 }
def k2c2 : Code := { maxStack := 1, maxLocals := 1, code := prog_224_method_3_code, exceptionTable := #[], attributes := #[] }
def k2m2 : Method := { name := "size", desc := "()I", sig := { parameters := [], returnType := some .int }, accessFlags := 0, code := some k2c2 }
def k2c3 : Code := { maxStack := 2, maxLocals := 2, code := prog_224_method_4_code, exceptionTable := #[], attributes := #[] }
def k2m3 : Method := { name := "start", desc := "(I)I", sig := { parameters := [.int], returnType := some .int }, accessFlags := 0, code := some k2c3 }
def k2c4 : Code := { maxStack := 1, maxLocals := 1, code := prog_224_method_8_code, exceptionTable := #[], attributes := #[] }
def k2m4 : Method := { name := "termBytes", desc := "()[B", sig := { parameters := [], returnType := some (.array .byte) }, accessFlags := 0, code := some k2c4 }
def k2c5 : Code := { maxStack := 3, maxLocals := 5, code := prog_224_method_11_code, exceptionTable := #[], attributes := #[] }
def k2m5 : Method := { name := "add", desc := "(III)I", sig := { parameters := [.int, .int, .int], returnType := some .int }, accessFlags := 0, code := some k2c5 }
def k2c6 : Code := { maxStack := 3, maxLocals := 3, code := prog_224_method_12_code, exceptionTable := #[], attributes := #[] }
def k2m6 : Method := { name := "endTerm", desc := "(II)V", sig := { parameters := [.int, .int], returnType := none }, accessFlags := 0, code := some k2c6 }
def k2c7 : Code := { maxStack := 7, maxLocals := 2, code := prog_224_method_15_code, exceptionTable := #[], attributes := #[] }
def k2m7 : Method := { name := "makeRoom", desc := "(I)V", sig := { parameters := [.int], returnType := none }, accessFlags := 2, code := some k2c7 }
def k2c8 : Code := { maxStack := 8, maxLocals := 3, code := prog_224_method_16_code, exceptionTable := #[], attributes := #[] }
def k2m8 : Method := { name := "grownLength", desc := "(IJ)I", sig := { parameters := [.int, .long], returnType := some .int }, accessFlags := 10, code := some k2c8 }
/-- com/example/termwright/termwright/TokenList -/
def k2 : Class := { plain "com/example/termwright/termwright/TokenList" (some 0) with
  accessFlags := 48
  interfaces := #[]
  cf := some (fileOf pool2 7 #[] #[{ accessFlags := 0, nameIndex := 5, descriptorIndex := 6, attributes := #[] }, { accessFlags := 0, nameIndex := 114, descriptorIndex := 6, attributes := #[] }, { accessFlags := 0, nameIndex := 31, descriptorIndex := 55, attributes := #[] }, { accessFlags := 0, nameIndex := 116, descriptorIndex := 117, attributes := #[] }, { accessFlags := 0, nameIndex := 27, descriptorIndex := 121, attributes := #[] }, { accessFlags := 0, nameIndex := 124, descriptorIndex := 125, attributes := #[] }, { accessFlags := 0, nameIndex := 81, descriptorIndex := 82, attributes := #[] }, { accessFlags := 2, nameIndex := 48, descriptorIndex := 49, attributes := #[] }, { accessFlags := 10, nameIndex := 38, descriptorIndex := 39, attributes := #[] }] 48 2 #[] #[{ accessFlags := 26, nameIndex := 101, descriptorIndex := 32, attributes := #[] }, { accessFlags := 26, nameIndex := 104, descriptorIndex := 32, attributes := #[] }, { accessFlags := 26, nameIndex := 106, descriptorIndex := 32, attributes := #[] }, { accessFlags := 26, nameIndex := 108, descriptorIndex := 32, attributes := #[] }, { accessFlags := 26, nameIndex := 110, descriptorIndex := 32, attributes := #[] }, { accessFlags := 2, nameIndex := 31, descriptorIndex := 32, attributes := #[] }, { accessFlags := 2, nameIndex := 11, descriptorIndex := 12, attributes := #[] }, { accessFlags := 2, nameIndex := 15, descriptorIndex := 12, attributes := #[] }, { accessFlags := 2, nameIndex := 18, descriptorIndex := 12, attributes := #[] }, { accessFlags := 2, nameIndex := 21, descriptorIndex := 12, attributes := #[] }, { accessFlags := 2, nameIndex := 24, descriptorIndex := 12, attributes := #[] }, { accessFlags := 2, nameIndex := 27, descriptorIndex := 28, attributes := #[] }, { accessFlags := 2, nameIndex := 35, descriptorIndex := 32, attributes := #[] }])
  fields := #[{ name := "KEPT_TOKENS", type := .int, accessFlags := 26, slot := 0, constantValue := 0 }, { name := "KEPT_TERM_BYTES", type := .int, accessFlags := 26, slot := 1, constantValue := 0 }, { name := "FIRST_TOKENS", type := .int, accessFlags := 26, slot := 2, constantValue := 0 }, { name := "FIRST_TERM_BYTES", type := .int, accessFlags := 26, slot := 3, constantValue := 0 }, { name := "NO_TERM", type := .int, accessFlags := 26, slot := 4, constantValue := 0 }, { name := "size", type := .int, accessFlags := 2, slot := 0, constantValue := 0 }, { name := "starts", type := (.array .int), accessFlags := 2, slot := 1, constantValue := 0 }, { name := "ends", type := (.array .int), accessFlags := 2, slot := 2, constantValue := 0 }, { name := "termStarts", type := (.array .int), accessFlags := 2, slot := 3, constantValue := 0 }, { name := "termEnds", type := (.array .int), accessFlags := 2, slot := 4, constantValue := 0 }, { name := "termChars", type := (.array .int), accessFlags := 2, slot := 5, constantValue := 0 }, { name := "termBytes", type := (.array .byte), accessFlags := 2, slot := 6, constantValue := 0 }, { name := "termBytesUsed", type := .int, accessFlags := 2, slot := 7, constantValue := 0 }]
  methods := #[k2m0, k2m1, k2m2, k2m3, k2m4, k2m5, k2m6, k2m7, k2m8]
  instanceTypes := #[.int, (.array .int), (.array .int), (.array .int), (.array .int), (.array .int), (.array .byte), .int]
  staticTypes := #[.int, .int, .int, .int, .int]
  resolved := Array.replicate 130 none
  statics := none }

def pool3 : Array CpInfo := pool [(1, .class_ 2), (0, u "java/lang/Math"), (1, .class_ 6), (1, u "java/lang/Object"), (0, u "<init>"), (0, u "()V"), (89, .class_ 100), (1, u "java/lang/Math$RandomNumberGeneratorHolder"), (20, u "(JJ)J"), (50, u "negativeZeroFloatBits"), (0, u "J"), (2, u "negativeZeroDoubleBits"), (21, u "max"), (2, u "min"), (43, u "$assertionsDisabled"), (0, u "Z"), (88, u "(II)I"), (2, u "twoToTheDoubleScaleDown"), (0, u "D"), (4, u "twoToTheDoubleScaleUp"), (9, u "E"), (3, u "PI"), (2, u "TAU"), (2, u "DEGREES_TO_RADIANS"), (0, u "RADIANS_TO_DEGREES")] 94

def k3m0 : Method := { name := "<init>", desc := "()V", sig := { parameters := [], returnType := none }, accessFlags := 2, code := none }
def k3c1 : Code := { maxStack := 4, maxLocals := 4, code := jdk_29_method_66_code, exceptionTable := #[], attributes := #[] }
def k3m1 : Method := { name := "max", desc := "(JJ)J", sig := { parameters := [.long, .long], returnType := some .long }, accessFlags := 9, code := some k3c1 }
def k3c2 : Code := { maxStack := 2, maxLocals := 2, code := jdk_29_method_69_code, exceptionTable := #[], attributes := #[] }
def k3m2 : Method := { name := "min", desc := "(II)I", sig := { parameters := [.int, .int], returnType := some .int }, accessFlags := 9, code := some k3c2 }
def k3c3 : Code := { maxStack := 4, maxLocals := 4, code := jdk_29_method_70_code, exceptionTable := #[], attributes := #[] }
def k3m3 : Method := { name := "min", desc := "(JJ)J", sig := { parameters := [.long, .long], returnType := some .long }, accessFlags := 9, code := some k3c3 }
/-- java/lang/Math -/
def k3 : Class := { plain "java/lang/Math" (some 0) with
  accessFlags := 49
  interfaces := #[]
  cf := some (fileOf pool3 1 #[.nestMembers #[98]] #[{ accessFlags := 2, nameIndex := 7, descriptorIndex := 8, attributes := #[] }, { accessFlags := 9, nameIndex := 198, descriptorIndex := 121, attributes := #[] }, { accessFlags := 9, nameIndex := 201, descriptorIndex := 335, attributes := #[] }, { accessFlags := 9, nameIndex := 201, descriptorIndex := 121, attributes := #[] }] 49 4 #[] #[{ accessFlags := 25, nameIndex := 354, descriptorIndex := 339, attributes := #[] }, { accessFlags := 25, nameIndex := 358, descriptorIndex := 339, attributes := #[] }, { accessFlags := 25, nameIndex := 361, descriptorIndex := 339, attributes := #[] }, { accessFlags := 26, nameIndex := 364, descriptorIndex := 339, attributes := #[] }, { accessFlags := 26, nameIndex := 365, descriptorIndex := 339, attributes := #[] }, { accessFlags := 26, nameIndex := 172, descriptorIndex := 173, attributes := #[] }, { accessFlags := 26, nameIndex := 176, descriptorIndex := 173, attributes := #[] }, { accessFlags := 8, nameIndex := 344, descriptorIndex := 339, attributes := #[] }, { accessFlags := 8, nameIndex := 338, descriptorIndex := 339, attributes := #[] }, { accessFlags := 4120, nameIndex := 245, descriptorIndex := 246, attributes := #[] }])
  fields := #[{ name := "E", type := .double, accessFlags := 25, slot := 0, constantValue := 0 }, { name := "PI", type := .double, accessFlags := 25, slot := 1, constantValue := 0 }, { name := "TAU", type := .double, accessFlags := 25, slot := 2, constantValue := 0 }, { name := "DEGREES_TO_RADIANS", type := .double, accessFlags := 26, slot := 3, constantValue := 0 }, { name := "RADIANS_TO_DEGREES", type := .double, accessFlags := 26, slot := 4, constantValue := 0 }, { name := "negativeZeroFloatBits", type := .long, accessFlags := 26, slot := 5, constantValue := 0 }, { name := "negativeZeroDoubleBits", type := .long, accessFlags := 26, slot := 6, constantValue := 0 }, { name := "twoToTheDoubleScaleUp", type := .double, accessFlags := 8, slot := 7, constantValue := 0 }, { name := "twoToTheDoubleScaleDown", type := .double, accessFlags := 8, slot := 8, constantValue := 0 }, { name := "$assertionsDisabled", type := .boolean, accessFlags := 4120, slot := 9, constantValue := 0 }]
  methods := #[k3m0, k3m1, k3m2, k3m3]
  instanceTypes := #[]
  staticTypes := #[.double, .double, .double, .double, .double, .long, .long, .double, .double, .boolean]
  resolved := Array.replicate 460 none
  statics := none }

def pool4 : Array CpInfo := pool [(2, .class_ 4), (1, u "java/lang/Object"), (0, u "<init>"), (0, u "()V"), (7, .class_ 16), (1, u "java/util/Arrays"), (57, .class_ 76), (1, u "java/util/Arrays$NaturalOrder"), (36, .class_ 115), (1, u "java/util/Arrays$LegacyMergeSort"), (1, u "Z"), (32, .methodref 151 152), (0, .class_ 153), (0, .nameAndType 154 155), (0, u "java/lang/System"), (0, u "arraycopy"), (0, u "(Ljava/lang/Object;ILjava/lang/Object;II)V"), (146, u "copyOf"), (1, .methodref 305 306), (0, .class_ 307), (0, .nameAndType 308 309), (0, u "java/lang/Math"), (0, u "min"), (0, u "(II)I"), (65, .class_ 376), (0, u "java/util/Arrays$ArrayList"), (68, u "$assertionsDisabled"), (269, u "MIN_ARRAY_SORT_GRAN"), (0, u "I"), (2, u "INSERTIONSORT_THRESHOLD"), (149, u "([BI)[B"), (105, .class_ 976), (0, u "java/util/Arrays$ArrayItr")] 52

def k4m0 : Method := { name := "<init>", desc := "()V", sig := { parameters := [], returnType := none }, accessFlags := 2, code := none }
def k4c1 : Code := { maxStack := 6, maxLocals := 3, code := jdk_65_method_121_code, exceptionTable := #[], attributes := #[] }
def k4m1 : Method := { name := "copyOf", desc := "([BI)[B", sig := { parameters := [(.array .byte), .int], returnType := some (.array .byte) }, accessFlags := 9, code := some k4c1 }
/-- java/util/Arrays -/
def k4 : Class := { plain "java/util/Arrays" (some 0) with
  accessFlags := 49
  interfaces := #[]
  cf := some (fileOf pool4 14 #[.nestMembers #[975, 375, 113, 74]] #[{ accessFlags := 2, nameIndex := 5, descriptorIndex := 6, attributes := #[] }, { accessFlags := 9, nameIndex := 302, descriptorIndex := 869, attributes := #[] }] 49 2 #[] #[{ accessFlags := 26, nameIndex := 715, descriptorIndex := 716, attributes := #[] }, { accessFlags := 26, nameIndex := 719, descriptorIndex := 716, attributes := #[] }, { accessFlags := 4120, nameIndex := 445, descriptorIndex := 117, attributes := #[] }])
  fields := #[{ name := "MIN_ARRAY_SORT_GRAN", type := .int, accessFlags := 26, slot := 0, constantValue := 0 }, { name := "INSERTIONSORT_THRESHOLD", type := .int, accessFlags := 26, slot := 1, constantValue := 0 }, { name := "$assertionsDisabled", type := .boolean, accessFlags := 4120, slot := 2, constantValue := 0 }]
  methods := #[k4m0, k4m1]
  instanceTypes := #[]
  staticTypes := #[.int, .int, .boolean]
  resolved := Array.replicate 1029 none
  statics := none }

def pool5 : Array CpInfo := pool [(2, .class_ 4), (1, u "java/lang/Object"), (0, u "<init>"), (0, u "()V"), (1, .class_ 10), (1, u "java/lang/System"), (0, u "allowSecurityManager"), (0, u "I"), (16, u "cons"), (0, u "Ljava/io/Console;"), (77, .class_ 110), (1, u "java/lang/System$CallersHolder"), (43, u "initialErrStream"), (0, u "Ljava/io/PrintStream;"), (19, u "security"), (0, u "Ljava/lang/SecurityManager;"), (31, .class_ 209), (0, u "java/lang/System$1"), (7, u "props"), (0, u "Ljava/util/Properties;"), (2, u "lineSeparator"), (0, u "Ljava/lang/String;"), (96, .class_ 321), (1, u "java/lang/System$LoggerFinder"), (5, .class_ 328), (0, u "java/lang/System$Logger"), (67, u "err"), (2, u "out"), (91, u "notSupportedJnuEncoding"), (15, u "in"), (17, u "initialIn"), (0, u "Ljava/io/InputStream;"), (35, u "bootLayer"), (0, u "Ljava/lang/ModuleLayer;"), (99, .class_ 664), (0, u "java/lang/System$2"), (9, u "NEVER"), (2, u "MAYBE"), (49, u "arraycopy"), (0, u "(Ljava/lang/Object;ILjava/lang/Object;II)V"), (72, .class_ 802), (0, u "java/lang/System$Logger$Level")] 31

def k5m0 : Method := { name := "<init>", desc := "()V", sig := { parameters := [], returnType := none }, accessFlags := 2, code := none }
def k5m1 : Method := { name := "arraycopy", desc := "(Ljava/lang/Object;ILjava/lang/Object;II)V", sig := { parameters := [(.object "java/lang/Object"), .int, (.object "java/lang/Object"), .int, .int], returnType := none }, accessFlags := 265, code := none }
/-- java/lang/System -/
def k5 : Class := { plain "java/lang/System" (some 0) with
  accessFlags := 49
  interfaces := #[]
  cf := some (fileOf pool5 8 #[.nestMembers #[319, 327, 801, 108, 663, 208]] #[{ accessFlags := 2, nameIndex := 5, descriptorIndex := 6, attributes := #[] }, { accessFlags := 265, nameIndex := 727, descriptorIndex := 728, attributes := #[] }] 49 2 #[] #[{ accessFlags := 25, nameIndex := 507, descriptorIndex := 526, attributes := #[] }, { accessFlags := 25, nameIndex := 399, descriptorIndex := 155, attributes := #[] }, { accessFlags := 25, nameIndex := 396, descriptorIndex := 155, attributes := #[] }, { accessFlags := 10, nameIndex := 525, descriptorIndex := 526, attributes := #[] }, { accessFlags := 26, nameIndex := 674, descriptorIndex := 12, attributes := #[] }, { accessFlags := 26, nameIndex := 677, descriptorIndex := 12, attributes := #[] }, { accessFlags := 10, nameIndex := 11, descriptorIndex := 12, attributes := #[] }, { accessFlags := 74, nameIndex := 175, descriptorIndex := 176, attributes := #[] }, { accessFlags := 10, nameIndex := 491, descriptorIndex := 222, attributes := #[] }, { accessFlags := 74, nameIndex := 29, descriptorIndex := 30, attributes := #[] }, { accessFlags := 74, nameIndex := 154, descriptorIndex := 155, attributes := #[] }, { accessFlags := 10, nameIndex := 217, descriptorIndex := 218, attributes := #[] }, { accessFlags := 10, nameIndex := 221, descriptorIndex := 222, attributes := #[] }, { accessFlags := 8, nameIndex := 562, descriptorIndex := 563, attributes := #[] }])
  fields := #[{ name := "in", type := (.object "java/io/InputStream"), accessFlags := 25, slot := 0, constantValue := 0 }, { name := "out", type := (.object "java/io/PrintStream"), accessFlags := 25, slot := 1, constantValue := 0 }, { name := "err", type := (.object "java/io/PrintStream"), accessFlags := 25, slot := 2, constantValue := 0 }, { name := "initialIn", type := (.object "java/io/InputStream"), accessFlags := 10, slot := 3, constantValue := 0 }, { name := "NEVER", type := .int, accessFlags := 26, slot := 4, constantValue := 0 }, { name := "MAYBE", type := .int, accessFlags := 26, slot := 5, constantValue := 0 }, { name := "allowSecurityManager", type := .int, accessFlags := 10, slot := 6, constantValue := 0 }, { name := "security", type := (.object "java/lang/SecurityManager"), accessFlags := 74, slot := 7, constantValue := 0 }, { name := "notSupportedJnuEncoding", type := (.object "java/lang/String"), accessFlags := 10, slot := 8, constantValue := 0 }, { name := "cons", type := (.object "java/io/Console"), accessFlags := 74, slot := 9, constantValue := 0 }, { name := "initialErrStream", type := (.object "java/io/PrintStream"), accessFlags := 74, slot := 10, constantValue := 0 }, { name := "props", type := (.object "java/util/Properties"), accessFlags := 10, slot := 11, constantValue := 0 }, { name := "lineSeparator", type := (.object "java/lang/String"), accessFlags := 10, slot := 12, constantValue := 0 }, { name := "bootLayer", type := (.object "java/lang/ModuleLayer"), accessFlags := 8, slot := 13, constantValue := 0 }]
  methods := #[k5m0, k5m1]
  instanceTypes := #[]
  staticTypes := #[(.object "java/io/InputStream"), (.object "java/io/PrintStream"), (.object "java/io/PrintStream"), (.object "java/io/InputStream"), .int, .int, .int, (.object "java/lang/SecurityManager"), (.object "java/lang/String"), (.object "java/io/Console"), (.object "java/io/PrintStream"), (.object "java/util/Properties"), (.object "java/lang/String"), (.object "java/lang/ModuleLayer")]
  resolved := Array.replicate 834 none
  statics := none }

def pool6 : Array CpInfo := pool [(1, u "java/lang/Cloneable"), (0, .class_ 1), (0, u "java/lang/Object"), (0, .class_ 3)] 3

/-- java/lang/Cloneable -/
def k6 : Class := { plain "java/lang/Cloneable" (some 0) with
  accessFlags := 1537
  interfaces := #[]
  cf := some (fileOf pool6 2 #[] #[] 1537 4 #[] #[])
  fields := #[]
  methods := #[]
  instanceTypes := #[]
  staticTypes := #[]
  resolved := Array.replicate 8 none
  statics := none }

def pool7 : Array CpInfo := pool [(1, u "java/io/Serializable"), (0, .class_ 1), (0, u "java/lang/Object"), (0, .class_ 3)] 3

/-- java/io/Serializable -/
def k7 : Class := { plain "java/io/Serializable" (some 0) with
  accessFlags := 1537
  interfaces := #[]
  cf := some (fileOf pool7 2 #[] #[] 1537 4 #[] #[])
  fields := #[]
  methods := #[]
  instanceTypes := #[]
  staticTypes := #[]
  resolved := Array.replicate 8 none
  statics := none }

/-- the primitive byte -/
def k8 : Class := { plain "byte" none with kind := .primitive 'B', accessFlags := 0x411 }
/-- [B -/
def k9 : Class := { plain "[B" (some 0) with kind := .array 8 .byte, interfaces := #[6, 7], accessFlags := 1041 }

/-- the primitive int -/
def k10 : Class := { plain "int" none with kind := .primitive 'I', accessFlags := 0x411 }
/-- [I -/
def k11 : Class := { plain "[I" (some 0) with kind := .array 10 .int, interfaces := #[6, 7], accessFlags := 1041 }

def heap : Heap := #[]
def classes : Array Class := #[k0, k1, k2, k3, k4, k5, k6, k7, k8, k9, k10, k11]
def interned : List (Array UInt16 × Addr) := []
def slotsUsed : Nat := 0
def theMethod : MethodId := ⟨1, 1⟩
def args0 : Array Value := #[.int 3, .int 1, .int 5, .int 6, .int 7]
def aboutOver (below : List Frame) : State where
  vm := { classes := classes, interned := interned.toArray }
  heap := heap
  slotsUsed := slotsUsed
  threads := #[{ frames := .invoking theMethod args0 :: below }]
def below0 : List Frame := [.native { method := ⟨0, 0⟩, args := #[] }]
def about1 : State := aboutOver below0
def p0 : Program := .bare "" "" ""
def e0 : Env := launch0.env 0 0 0
theorem w_frames : about1.frames = Frame.invoking theMethod args0 :: below0 := rfl
set_option maxRecDepth 65536 in
theorem w_args : argsFit about1.vm theMethod args0 = true := by decide +kernel
set_option maxRecDepth 65536 in
theorem w_heap : heapFits about1 = true := by decide +kernel
set_option maxRecDepth 65536 in
theorem w_runnable : about1.curStatus? = some .runnable := by decide +kernel
set_option maxRecDepth 65536 in
theorem w_alone : about1.alone = true := by decide +kernel
set_option maxRecDepth 65536 in
theorem w_named : about1.methodNamed? x = some theMethod := by decide +kernel
set_option maxRecDepth 65536 in
theorem w_hears : about1.hears theMethod below0 = true := by decide +kernel
set_option maxRecDepth 65536 in
theorem w_ripe : about1.ripe theMethod args0 below0 = true := by decide +kernel
theorem w_running : about1.status = .running := rfl
set_option maxRecDepth 65536 in
theorem w_room : about1.hasRoom e0.platform room_1 = true :=
  launch0.hasRoom_least _ room_1 (by decide +kernel) (by decide +kernel) (by decide +kernel) (by decide +kernel) (by decide +kernel) (by decide +kernel)
theorem allAtoms_all (ts : List Jvm.Cond) (a : Array Jvm.Value) (st : Jvm.State) : (allAtoms ts).before a st = ts.all (fun c => c.before a st) := by
  induction ts with
  | nil => rfl
  | cons c t ih =>
    show (Jvm.Cond.and c (allAtoms t)).before a st = _
    rw [Jvm.Cond.before_and, ih, List.all_cons]
def words1 : List Jvm.Cond := Jvm.Cond.code x code maxLocals ret :: tables_1
/-- a 'code' word, met by the world's own term for the bytes: nothing is compared byte by byte -/
theorem code_word {y : MethodName} {bytes : ByteArray} {mx : Nat} {rt : Option FieldType} {a : Array Value} {s : State} {m : MethodId} {meth : Method} {c : Code} (h1 : s.methodNamed? y = some m) (h2 : s.vm.method? m = some meth) (h3 : meth.code = some c) (h4 : c.code = bytes)
    (h5 : (c.maxLocals == mx && c.exceptionTable.isEmpty && decide (c.maxStack ≤ mostOperands) && decide (meth.sig.returnType = rt) && !meth.locks && decide (parseMethodDescriptor y.desc = some meth.sig)) = true) : (Jvm.Cond.code y bytes mx rt).before a s = true := by
  simp only [Bool.and_eq_true, beq_iff_eq, Bool.not_eq_true', decide_eq_true_eq] at h5
  obtain ⟨⟨⟨⟨⟨g1, g2⟩, g3⟩, g4⟩, g5⟩, g6⟩ := h5
  simp [Cond.before, Cond.holds, Cond.value, h1, h2, h3, h4, g1, g2, g3, g4, g5, g6]
def isCode : Jvm.Cond → Bool
  | .code _ _ _ _ => true
  | _ => false
theorem all_split {L : List Jvm.Cond} {P : Jvm.Cond → Bool} (h1 : L.all (fun c => isCode c || P c) = true) (h2 : ∀ c ∈ L.filter isCode, P c = true) : L.all P = true := by
  refine List.all_eq_true.mpr fun c hc => ?_
  have h := List.all_eq_true.mp h1 c hc
  rcases Bool.eq_false_or_eq_true (isCode c) with hi | hi
  · exact h2 c (List.mem_filter.mpr ⟨hc, hi⟩)
  · simpa [hi] using h
set_option maxRecDepth 65536 in
theorem w_c0 : (Jvm.Cond.code x code maxLocals ret).before args0 about1 = true := code_word (m := ⟨1, 1⟩) (meth := k1m1) (c := k1c1) (by decide +kernel) rfl rfl rfl (by decide +kernel)
set_option maxRecDepth 65536 in
theorem w_c1 : (Jvm.Cond.code ({ cls := "com/example/termwright/termwright/TokenList", name := "<init>", desc := "()V" } : Jvm.MethodName) prog_224_method_1_code (1 : Nat) (Option.none : Option Jvm.ClassFile.FieldType)).before args0 about1 = true := code_word (m := ⟨2, 0⟩) (meth := k2m0) (c := k2c0) (by decide +kernel) rfl rfl rfl (by decide +kernel)
set_option maxRecDepth 65536 in
theorem w_c2 : (Jvm.Cond.code ({ cls := "java/lang/Object", name := "<init>", desc := "()V" } : Jvm.MethodName) object_method_1_code (1 : Nat) (Option.none : Option Jvm.ClassFile.FieldType)).before args0 about1 = true := code_word (m := ⟨0, 0⟩) (meth := k0m0) (c := k0c0) (by decide +kernel) rfl rfl rfl (by decide +kernel)
set_option maxRecDepth 65536 in
theorem w_c3 : (Jvm.Cond.code ({ cls := "com/example/termwright/termwright/TokenList", name := "termBytes", desc := "()[B" } : Jvm.MethodName) prog_224_method_8_code (1 : Nat) (Option.some (Jvm.ClassFile.FieldType.array Jvm.ClassFile.FieldType.byte))).before args0 about1 = true := code_word (m := ⟨2, 4⟩) (meth := k2m4) (c := k2c4) (by decide +kernel) rfl rfl rfl (by decide +kernel)
set_option maxRecDepth 65536 in
theorem w_c4 : (Jvm.Cond.code ({ cls := "com/example/termwright/termwright/TokenList", name := "clear", desc := "()V" } : Jvm.MethodName) prog_224_method_2_code (1 : Nat) (Option.none : Option Jvm.ClassFile.FieldType)).before args0 about1 = true := code_word (m := ⟨2, 1⟩) (meth := k2m1) (c := k2c1) (by decide +kernel) rfl rfl rfl (by decide +kernel)
set_option maxRecDepth 65536 in
theorem w_c5 : (Jvm.Cond.code ({ cls := "com/example/termwright/termwright/TokenList", name := "size", desc := "()I" } : Jvm.MethodName) prog_224_method_3_code (1 : Nat) (Option.some Jvm.ClassFile.FieldType.int)).before args0 about1 = true := code_word (m := ⟨2, 2⟩) (meth := k2m2) (c := k2c2) (by decide +kernel) rfl rfl rfl (by decide +kernel)
set_option maxRecDepth 65536 in
theorem w_c6 : (Jvm.Cond.code ({ cls := "com/example/termwright/termwright/TokenList", name := "add", desc := "(III)I" } : Jvm.MethodName) prog_224_method_11_code (5 : Nat) (Option.some Jvm.ClassFile.FieldType.int)).before args0 about1 = true := code_word (m := ⟨2, 5⟩) (meth := k2m5) (c := k2c5) (by decide +kernel) rfl rfl rfl (by decide +kernel)
set_option maxRecDepth 65536 in
theorem w_c7 : (Jvm.Cond.code ({ cls := "com/example/termwright/termwright/TokenList", name := "makeRoom", desc := "(I)V" } : Jvm.MethodName) prog_224_method_15_code (2 : Nat) (Option.none : Option Jvm.ClassFile.FieldType)).before args0 about1 = true := code_word (m := ⟨2, 7⟩) (meth := k2m7) (c := k2c7) (by decide +kernel) rfl rfl rfl (by decide +kernel)
set_option maxRecDepth 65536 in
theorem w_c8 : (Jvm.Cond.code ({ cls := "com/example/termwright/termwright/TokenList", name := "start", desc := "(I)I" } : Jvm.MethodName) prog_224_method_4_code (2 : Nat) (Option.some Jvm.ClassFile.FieldType.int)).before args0 about1 = true := code_word (m := ⟨2, 3⟩) (meth := k2m3) (c := k2c3) (by decide +kernel) rfl rfl rfl (by decide +kernel)
set_option maxRecDepth 65536 in
theorem w_c9 : (Jvm.Cond.code ({ cls := "com/example/termwright/termwright/TokenList", name := "endTerm", desc := "(II)V" } : Jvm.MethodName) prog_224_method_12_code (3 : Nat) (Option.none : Option Jvm.ClassFile.FieldType)).before args0 about1 = true := code_word (m := ⟨2, 6⟩) (meth := k2m6) (c := k2c6) (by decide +kernel) rfl rfl rfl (by decide +kernel)
set_option maxRecDepth 65536 in
theorem w_c10 : (Jvm.Cond.code ({ cls := "com/example/termwright/termwright/TokenList", name := "grownLength", desc := "(IJ)I" } : Jvm.MethodName) prog_224_method_16_code (3 : Nat) (Option.some Jvm.ClassFile.FieldType.int)).before args0 about1 = true := code_word (m := ⟨2, 8⟩) (meth := k2m8) (c := k2c8) (by decide +kernel) rfl rfl rfl (by decide +kernel)
set_option maxRecDepth 65536 in
theorem w_c11 : (Jvm.Cond.code ({ cls := "java/lang/Math", name := "min", desc := "(JJ)J" } : Jvm.MethodName) jdk_29_method_70_code (4 : Nat) (Option.some Jvm.ClassFile.FieldType.long)).before args0 about1 = true := code_word (m := ⟨3, 3⟩) (meth := k3m3) (c := k3c3) (by decide +kernel) rfl rfl rfl (by decide +kernel)
set_option maxRecDepth 65536 in
theorem w_c12 : (Jvm.Cond.code ({ cls := "java/lang/Math", name := "max", desc := "(JJ)J" } : Jvm.MethodName) jdk_29_method_66_code (4 : Nat) (Option.some Jvm.ClassFile.FieldType.long)).before args0 about1 = true := code_word (m := ⟨3, 1⟩) (meth := k3m1) (c := k3c1) (by decide +kernel) rfl rfl rfl (by decide +kernel)
set_option maxRecDepth 65536 in
theorem w_c13 : (Jvm.Cond.code ({ cls := "java/util/Arrays", name := "copyOf", desc := "([BI)[B" } : Jvm.MethodName) jdk_65_method_121_code (3 : Nat) (Option.some (Jvm.ClassFile.FieldType.array Jvm.ClassFile.FieldType.byte))).before args0 about1 = true := code_word (m := ⟨4, 1⟩) (meth := k4m1) (c := k4c1) (by decide +kernel) rfl rfl rfl (by decide +kernel)
set_option maxRecDepth 65536 in
theorem w_c14 : (Jvm.Cond.code ({ cls := "java/lang/Math", name := "min", desc := "(II)I" } : Jvm.MethodName) jdk_29_method_69_code (2 : Nat) (Option.some Jvm.ClassFile.FieldType.int)).before args0 about1 = true := code_word (m := ⟨3, 2⟩) (meth := k3m2) (c := k3c2) (by decide +kernel) rfl rfl rfl (by decide +kernel)
def codes1 : List Jvm.Cond := [Jvm.Cond.code x code maxLocals ret, Jvm.Cond.code ({ cls := "com/example/termwright/termwright/TokenList", name := "<init>", desc := "()V" } : Jvm.MethodName) prog_224_method_1_code (1 : Nat) (Option.none : Option Jvm.ClassFile.FieldType), Jvm.Cond.code ({ cls := "java/lang/Object", name := "<init>", desc := "()V" } : Jvm.MethodName) object_method_1_code (1 : Nat) (Option.none : Option Jvm.ClassFile.FieldType), Jvm.Cond.code ({ cls := "com/example/termwright/termwright/TokenList", name := "termBytes", desc := "()[B" } : Jvm.MethodName) prog_224_method_8_code (1 : Nat) (Option.some (Jvm.ClassFile.FieldType.array Jvm.ClassFile.FieldType.byte)), Jvm.Cond.code ({ cls := "com/example/termwright/termwright/TokenList", name := "clear", desc := "()V" } : Jvm.MethodName) prog_224_method_2_code (1 : Nat) (Option.none : Option Jvm.ClassFile.FieldType), Jvm.Cond.code ({ cls := "com/example/termwright/termwright/TokenList", name := "size", desc := "()I" } : Jvm.MethodName) prog_224_method_3_code (1 : Nat) (Option.some Jvm.ClassFile.FieldType.int), Jvm.Cond.code ({ cls := "com/example/termwright/termwright/TokenList", name := "add", desc := "(III)I" } : Jvm.MethodName) prog_224_method_11_code (5 : Nat) (Option.some Jvm.ClassFile.FieldType.int), Jvm.Cond.code ({ cls := "com/example/termwright/termwright/TokenList", name := "makeRoom", desc := "(I)V" } : Jvm.MethodName) prog_224_method_15_code (2 : Nat) (Option.none : Option Jvm.ClassFile.FieldType), Jvm.Cond.code ({ cls := "com/example/termwright/termwright/TokenList", name := "start", desc := "(I)I" } : Jvm.MethodName) prog_224_method_4_code (2 : Nat) (Option.some Jvm.ClassFile.FieldType.int), Jvm.Cond.code ({ cls := "com/example/termwright/termwright/TokenList", name := "endTerm", desc := "(II)V" } : Jvm.MethodName) prog_224_method_12_code (3 : Nat) (Option.none : Option Jvm.ClassFile.FieldType), Jvm.Cond.code ({ cls := "com/example/termwright/termwright/TokenList", name := "grownLength", desc := "(IJ)I" } : Jvm.MethodName) prog_224_method_16_code (3 : Nat) (Option.some Jvm.ClassFile.FieldType.int), Jvm.Cond.code ({ cls := "java/lang/Math", name := "min", desc := "(JJ)J" } : Jvm.MethodName) jdk_29_method_70_code (4 : Nat) (Option.some Jvm.ClassFile.FieldType.long), Jvm.Cond.code ({ cls := "java/lang/Math", name := "max", desc := "(JJ)J" } : Jvm.MethodName) jdk_29_method_66_code (4 : Nat) (Option.some Jvm.ClassFile.FieldType.long), Jvm.Cond.code ({ cls := "java/util/Arrays", name := "copyOf", desc := "([BI)[B" } : Jvm.MethodName) jdk_65_method_121_code (3 : Nat) (Option.some (Jvm.ClassFile.FieldType.array Jvm.ClassFile.FieldType.byte)), Jvm.Cond.code ({ cls := "java/lang/Math", name := "min", desc := "(II)I" } : Jvm.MethodName) jdk_29_method_69_code (2 : Nat) (Option.some Jvm.ClassFile.FieldType.int)]
set_option maxRecDepth 65536 in
theorem codes_eq : words1.filter isCode = codes1 := rfl
theorem w_codes : ∀ c ∈ words1.filter isCode, c.before args0 about1 = true := by
  rw [codes_eq]
  intro c hc
  simp only [codes1, List.mem_cons, List.not_mem_nil, or_false] at hc
  rcases hc with rfl | rfl | rfl | rfl | rfl | rfl | rfl | rfl | rfl | rfl | rfl | rfl | rfl | rfl | rfl
  · exact w_c0
  · exact w_c1
  · exact w_c2
  · exact w_c3
  · exact w_c4
  · exact w_c5
  · exact w_c6
  · exact w_c7
  · exact w_c8
  · exact w_c9
  · exact w_c10
  · exact w_c11
  · exact w_c12
  · exact w_c13
  · exact w_c14
set_option maxRecDepth 65536 in
theorem w_t1 : (words1.take 24).all (fun c => isCode c || c.before args0 about1) = true := by decide +kernel
set_option maxRecDepth 65536 in
theorem w_t2 : ((words1.drop 24).take 24).all (fun c => isCode c || c.before args0 about1) = true := by decide +kernel
set_option maxRecDepth 65536 in
theorem w_t3 : (((words1.drop 24).drop 24).take 24).all (fun c => isCode c || c.before args0 about1) = true := by decide +kernel
set_option maxRecDepth 65536 in
theorem w_t4 : (((words1.drop 24).drop 24).drop 24).all (fun c => isCode c || c.before args0 about1) = true := by decide +kernel
theorem w_tables : (allAtoms (Jvm.Cond.code x code maxLocals ret :: tables_1)).before args0 about1 = true := by
  rw [allAtoms_all]
  show words1.all (fun c => c.before args0 about1) = true
  refine all_split ?_ w_codes
  rw [← List.take_append_drop 24 words1, List.all_append, w_t1, ← List.take_append_drop 24 (words1.drop 24), List.all_append, w_t2, ← List.take_append_drop 24 ((words1.drop 24).drop 24), List.all_append, w_t3, w_t4]
  rfl
set_option maxRecDepth 65536 in
theorem w_case : (Jvm.Cond.and given_1 narrow_1).before args0 about1 = true := by decide +kernel
theorem w_applies : (headSpec (Jvm.Cond.code x code maxLocals ret :: tables_1) room_1).applies x e0.platform about1 = true :=
  (Spec.applies_iff w_frames).mpr ⟨w_running, w_runnable, w_alone, w_named, w_hears, w_ripe, w_room, w_tables⟩
theorem atStart : AtStart classFile x code maxLocals ret World_1 tables_1 room_1 Calls_1 rest_1 Pre_1 launch0 p0 e0 about1 theMethod args0 below0 :=
  ⟨lists_1, trivial, launch0.admits_env _ _ _, launch0.least_env, fairChoices_fair.cas, fairChoices_fair.clock, w_frames, w_args, w_heap, w_applies, trivial, trivial, w_case⟩
end start1
theorem witness_1 : WitnessClaimed_1 := ⟨start1.p0, start1.e0, start1.about1, start1.theMethod, start1.args0, start1.below0, start1.atStart⟩
end Jvm.Pilot.@@N@@
