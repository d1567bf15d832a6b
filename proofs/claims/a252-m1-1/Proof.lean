import JvmDerived
import JvmDerived.Pilot.@@N@@Statement
import JvmDerived.Pilot.@@N@@Code
set_option linter.unusedVariables false
set_option linter.unusedSimpArgs false
namespace Jvm.RoadKit
open Sem ClassFile Op Lib Jvm.Stand Jvm.Free Jvm.LawKit
section New
variable {p : Program} {l : Launch} {e : Env} {R : Room} {s : State} {m : MethodId} {args : Array Value} {below : List Frame} {meth : Method} {c : Code} {T : State} {locs : List Loc} {cells slots : Nat}
theorem retI (X : Stand p l e R s m args below meth c T locs cells slots) (hx : p.tables.exec = Jvm.exec) {pc : Nat} {Ls : Array Slot} {z : Int32} {rest : List Value} (hret : meth.sig.returnType = some .int) (hd : decode c.code pc = .ok (.ireturn, 1)) {fs : List Frame}
    (hl : ∀ (f : JFrame) (acts : List Action), f.method = m → f.locked = none → f.entered = [] → (doReturn e (T.setTop f) acts (some (.int z))).1 = T.setFrames fs) : Steps p.tables e below (T.setTop (mkF m pc Ls (.int z :: rest))) (T.setFrames fs) := by
  have hm' : T.vm.method? m = some meth := X.method'
  have hn : narrow .int (.int z) = .int z := rfl
  show Steps p.tables e below (T.setTop { method := m, pc := pc, locals := Ls, stack := _ :: rest, locked := none }) _
  jvm_step X.here [X.here.top, hx, hd, hm', hret, hn]
  first | (intro acts; rw [hl _ acts rfl rfl rfl]) | rw [hl _ _ rfl rfl rfl]
  exact Steps.refl _
end New
end Jvm.RoadKit
namespace Jvm.Pilot.@@N@@
open Jvm Jvm.ClassFile Sem Op Lib Jvm.Free Jvm.Stand Jvm.LawKit Jvm.RoadKit Bundle Jvm.Pilot.@@N@@.Jvm.D
/-- an array of n components, the i-th holding f i -/
def own_Ar (Z : State) (h : Heap) (a : Addr) (ty : FieldType) (n : Nat) (f : Nat → Value) : Prop :=
  ∃ c : Cell, Arr Z h a c ty ∧ c.slots.size = n ∧ n < 2147483648 ∧ (∀ i, i < n → c.slots[i]? = some (f i)) ∧ ∀ i, i < n → fits ty (f i) = true
theorem own_nat {j : Int32} (q : 0 ≤ j.toInt) : (j.toNatClampNeg : Int) = j.toInt := by
  simp only [Int32.toNatClampNeg]; omega
theorem own_lt0 {j : Int32} (q : 0 ≤ j.toInt) : ¬ j < 0 := by
  rw [Int32.lt_iff_toInt_lt]; have : (0 : Int32).toInt = 0 := rfl; omega
theorem own_ge0 {j : Int32} (q : ¬ j < 0) : 0 ≤ j.toInt := by
  rw [Int32.lt_iff_toInt_lt] at q; have : (0 : Int32).toInt = 0 := rfl; omega
theorem own_Ar.lt {Z : State} {h : Heap} {a : Addr} {ty : FieldType} {n : Nat} {f : Nat → Value} (F : own_Ar Z h a ty n f) : a < h.size := by obtain ⟨c, A, -⟩ := F; exact A.lt
theorem own_Ar.ext {Z : State} {h h' : Heap} {a : Addr} {ty : FieldType} {n : Nat} {f : Nat → Value} (F : own_Ar Z h a ty n f) (E : Ext h h') : own_Ar Z h' a ty n f := by obtain ⟨c, A, r⟩ := F; exact ⟨c, A.ext E, r⟩
theorem own_Ar.other {Z : State} {h h' : Heap} {a b : Addr} {sl : Nat} {v : Value} {ty : FieldType} {n : Nat} {f : Nat → Value} (F : own_Ar Z h b ty n f) (W : Wr h h' a sl v) (q : b ≠ a) : own_Ar Z h' b ty n f := by obtain ⟨c, A, r⟩ := F; exact ⟨c, A.other W q, r⟩
theorem own_Ar.keep {Z : State} {h h' : Heap} {a : Addr} {ws : List Addr} {ty : FieldType} {n : Nat} {f : Nat → Value} (F : own_Ar Z h a ty n f) (K : Keep h h' ws) (q : a ∉ ws) : own_Ar Z h' a ty n f := by obtain ⟨c, A, r⟩ := F; exact ⟨c, ⟨K.2.1 a c A.1 q, A.2⟩, r⟩
theorem own_Ar.eq {Z : State} {h : Heap} {a : Addr} {ty : FieldType} {n : Nat} {f g : Nat → Value} (F : own_Ar Z h a ty n f) (q : ∀ i, i < n → f i = g i) : own_Ar Z h a ty n g := by
  obtain ⟨c, A, r1, r2, r3, r4⟩ := F
  exact ⟨c, A, r1, r2, fun i hi => by rw [← q i hi]; exact r3 i hi, fun i hi => by rw [← q i hi]; exact r4 i hi⟩
theorem own_Ar.size {Z : State} {h : Heap} {a : Addr} {ty : FieldType} {n m : Nat} {f : Nat → Value} (F : own_Ar Z h a ty n f) (q : n = m) : own_Ar Z h a ty m f := q ▸ F
theorem own_fits_default (ty : FieldType) : fits ty (defaultValue ty) = true := by cases ty <;> rfl
/-- a new array -/
theorem own_Ar.new {Z : State} {h : Heap} {a : Addr} {k : ClassId} {ty : FieldType} {z : Int32} {n : Nat} (A : Arr Z h a (newA k ty z) ty) (q : z.toInt = n) : own_Ar Z h a ty n (fun _ => defaultValue ty) := by
  have e : z.toNatClampNeg = n := by have := own_nat (j := z) (by omega); omega
  obtain ⟨c, A', q1, S, q3, H, G⟩ := Arv.new A (own_lt0 (by omega))
  have r := z.toInt_lt
  refine ⟨c, A', S.trans e, by omega, fun i hi => by rw [H i (by omega)]; rfl, fun i hi => own_fits_default ty⟩
/-- a component read -/
theorem own_Ar.at {Z : State} {h : Heap} {a : Addr} {ty : FieldType} {n : Nat} {f : Nat → Value} (F : own_Ar Z h a ty n f) {j : Int32} {i : Nat} (hj : j.toInt = i) (hi : i < n) :
    ∃ c : Cell, Arr Z h a c ty ∧ ¬ (j < 0 ∨ c.slots.size ≤ j.toNatClampNeg) ∧ c.slots[j.toNatClampNeg]? = some (f i) := by
  obtain ⟨c, A, r1, r2, r3, r4⟩ := F
  have e : j.toNatClampNeg = i := by have := own_nat (j := j) (by omega); omega
  refine ⟨c, A, fun q => q.elim (own_lt0 (by omega)) (fun u => by omega), by rw [e]; exact r3 i hi⟩
/-- its length -/
theorem own_Ar.len {Z : State} {h : Heap} {a : Addr} {ty : FieldType} {n : Nat} {f : Nat → Value} (F : own_Ar Z h a ty n f) : ∃ c : Cell, Arr Z h a c ty ∧ c.slots.size.toInt32 = Int32.ofNat n ∧ n < 2147483648 := by
  obtain ⟨c, A, r1, r2, r3, r4⟩ := F
  exact ⟨c, A, by rw [r1], r2⟩
theorem own_ofNat {n : Nat} (h : n < 2147483648) : (Int32.ofNat n).toInt = n := Int32.toInt_ofNat_of_lt (by omega)
/-- a component written -/
theorem own_Ar.set {Z : State} {h h' : Heap} {a : Addr} {ty : FieldType} {n : Nat} {f : Nat → Value} {v : Value} (F : own_Ar Z h a ty n f) {j : Int32} {i : Nat} (hj : j.toInt = i) (W : Wr h h' a j.toNatClampNeg v) (hv : fits ty v = true) :
    own_Ar Z h' a ty n (fun k => if k = i then v else f k) := by
  obtain ⟨c, A, r1, r2, r3, r4⟩ := F
  have e : j.toNatClampNeg = i := by have := own_nat (j := j) (by omega); omega
  obtain ⟨c', q1, q2, q3, q4, q5, q6, q7⟩ := wr_at W A.1
  obtain ⟨q8, q9, q10⟩ := q7 rfl
  have A' := A.same W
  rw [← q8] at A'
  refine ⟨c', A', q4.trans r1, r2, fun k hk => ?_, fun k hk => ?_⟩ <;> dsimp only
  · by_cases u : k = i
    · subst u; rw [if_pos rfl, ← e]; exact q9
    · rw [if_neg u, q6 k (by omega)]; exact r3 k hk
  · by_cases u : k = i
    · rw [if_pos u]; exact hv
    · rw [if_neg u]; exact r4 k hk
theorem own_ins {j : Int32} {n i : Nat} {c : Cell} (r1 : c.slots.size = n) (hj : j.toInt = i) (hi : i < n) : ¬ (j < 0 ∨ c.slots.size ≤ j.toNatClampNeg) := by
  have e : j.toNatClampNeg = i := by have := own_nat (j := j) (by omega); omega
  exact fun q => q.elim (own_lt0 (by omega)) (fun u => by omega)
theorem own_Ar.arv {Z : State} {h : Heap} {a : Addr} {ty : FieldType} {n : Nat} {f : Nat → Value} (F : own_Ar Z h a ty n f) (d : Value) : ∃ k, Arv Z h a k ty (Int32.ofNat n) ((List.range n).map f) d := by
  obtain ⟨c, A, r1, r2, r3, r4⟩ := F
  have e := own_ofNat r2
  have e2 : (Int32.ofNat n).toNatClampNeg = n := by have := own_nat (j := Int32.ofNat n) (by omega); omega
  refine ⟨c.cls, c, A, rfl, by rw [e2]; exact r1, own_lt0 (by omega), fun i hi => ?_, fun i hi => ?_⟩
  · rw [r3 i (by omega)]; simp [List.getD, show i < n by omega]
  · have := r4 i (by omega); simpa [List.getD, show i < n by omega] using this
theorem own_Ar.of_arv {Z : State} {h : Heap} {a : Addr} {k : ClassId} {ty : FieldType} {z : Int32} {vs : List Value} {d : Value} {n : Nat} (F : Arv Z h a k ty z vs d) (q : z.toInt = n) : own_Ar Z h a ty n (fun i => vs.getD i d) := by
  obtain ⟨c, A, r1, r2, r3, H, G⟩ := F
  have e : z.toNatClampNeg = n := by have := own_nat (j := z) (by omega); omega
  have r := z.toInt_lt
  exact ⟨c, A, r2.trans e, by omega, fun i hi => H i (by omega), fun i hi => G i (by omega)⟩
theorem own_cp {p : Program} {l : Launch} {e : Env} {R : Room} {s : State} {m : MethodId} {args : Array Value} {below : List Frame} {meth : Method} {c : Code} {T : State} {locs : List Loc} {cells slots : Nat} {Z : State} {h : Heap} {a b : Addr}
    (X : Stand p l e R s m args below meth c T locs cells slots) (hx : p.tables.exec = Jvm.exec) (hZ : Z.Warmed39 s.vm) {a0 : Array Value} {own : String} {index : Nat} (hown : s.vm.findClass own = some m.cls)
    (w1 : (Cond.methodLink own index Jvm.Stand.acN).before a0 Z = true) (w2 : (Cond.native Jvm.Stand.acN).before a0 Z = true) (w3 : (Cond.static Jvm.Stand.acN).before a0 Z = true) (w4 : (Cond.initialized "java/lang/System").before a0 Z = true) (eT : T.heap = h)
    {ty : FieldType} {n n' : Nat} {f f' : Nat → Value} (A : own_Ar Z h a ty n f) (B : own_Ar Z h b ty n' f') (hp : refKind ty = false) {k : Nat} (hk1 : k ≤ n) (hk2 : k ≤ n') {nn : Int32} (hnn : nn.toInt = k) {n0 : Nat} (N : Fr n0 locs) (ge : n0 ≤ b)
    {g : JFrame} (hg : g.method = m) (hsize : g.locals.size = c.maxLocals) {rest : List Value} (hs : g.stack = .int nn :: .int 0 :: .ref b :: .int 0 :: .ref a :: rest) (hd : decode c.code g.pc = .ok (.invokestatic index, 3))
    (hf : 1 ≤ R.frames) {W : Nat} (hW : 2 * g.monitorRoom + (rest.map fun v => v.category).sum ≤ W) (hlo : W + (nativeFrameWords "java/lang/System" "arraycopy" 5 + 11) ≤ R.locals) :
    ∃ T' h' L, Stand p l e R s m args below meth c T' L cells slots ∧ T'.heap = h' ∧ Fr n0 L ∧ Keep h h' [b] ∧ own_Ar Z h' b ty n' (fun i => if i < k then f i else f' i) ∧
      ∀ target, Steps p.tables e below (T'.setTop { g with pc := g.pc + 3, stack := rest }) target → Steps p.tables e below (T.setTop g) target := by
  obtain ⟨kA, VA⟩ := A.arv .null
  obtain ⟨kB, VB⟩ := B.arv .null
  have hn : n < 2147483648 := by obtain ⟨_, _, _, r, _⟩ := A; exact r
  have hn' : n' < 2147483648 := by obtain ⟨_, _, _, r, _⟩ := B; exact r
  have en := own_ofNat hn
  have en' := own_ofNat hn'
  have e1 : (Int32.ofNat n).toNatClampNeg = n := by have := own_nat (j := Int32.ofNat n) (by omega); omega
  have e2 : (Int32.ofNat n').toNatClampNeg = n' := by have := own_nat (j := Int32.ofNat n') (by omega); omega
  have e3 : nn.toNatClampNeg = k := by have := own_nat (j := nn) (by omega); omega
  have e0 : (0 : Int32).toNatClampNeg = 0 := rfl
  obtain ⟨T', h', L, X', eT', N', K', V', st⟩ := cpA X hx hZ hown w1 w2 w3 w4 eT (sp := 0) (dp := 0) (nn := nn) VA VB (Or.inl ⟨rfl, hp⟩) (by decide) (by decide) (own_lt0 (by omega)) (by rw [e1, e3, e0]; omega) (by rw [e2, e3, e0]; omega) rfl (by rw [e3, e0, List.length_map, List.length_range]; omega) N ge hg hsize hs hd hf hW hlo
  refine ⟨T', h', L, X', eT', N', K', ?_, st⟩
  refine (own_Ar.of_arv V' en').eq fun i hi => ?_
  rw [e3, e0]
  simp only [List.take_zero, List.nil_append, Nat.zero_add, List.getD_eq_getElem?_getD]
  by_cases u : i < k
  · rw [if_pos u, List.getElem?_append_left (by simpa using u)]
    simp [u, show i < n by omega]
  · rw [if_neg u, List.getElem?_append_right (by simpa using Nat.le_of_not_lt u)]
    simp only [List.length_map, List.length_range, List.getElem?_drop, show k + (i - k) = i by omega]
    simp [hi]
theorem own_clone {p : Program} {l : Launch} {e : Env} {R : Room} {s : State} {m : MethodId} {args : Array Value} {below : List Frame} {meth : Method} {c : Code} {T : State} {locs : List Loc} {cells slots : Nat} {Z : State} {h : Heap} {a : Addr}
    (X : Stand p l e R s m args below meth c T locs cells slots) (hx : p.tables.exec = Jvm.exec) (hZ : Z.Warmed39 s.vm) {a0 : Array Value} {own ad : String} {index : Nat} (hown : s.vm.findClass own = some m.cls)
    (w1 : (Cond.methodLink own index ⟨ad, "clone", "()Ljava/lang/Object;"⟩).before a0 Z = true) (w2 : (Cond.sameMethod ad "java/lang/Object" "clone" "()Ljava/lang/Object;").before a0 Z = true) (w3 : (Cond.native ⟨"java/lang/Object", "clone", "()Ljava/lang/Object;"⟩).before a0 Z = true)
    (w4 : (Cond.instanceMethod ⟨"java/lang/Object", "clone", "()Ljava/lang/Object;"⟩).before a0 Z = true) (w5 : (Cond.selects ad ⟨ad, "clone", "()Ljava/lang/Object;"⟩ ⟨"java/lang/Object", "clone", "()Ljava/lang/Object;"⟩).before a0 Z = true) (w6 : (Cond.castable ad "java/lang/Cloneable").before a0 Z = true)
    (eT : T.heap = h) {ty : FieldType} {n : Nat} {f : Nat → Value} (A : own_Ar Z h a ty n f) (E : Exa Z h a ad) {g : JFrame} (hg : g.method = m) (hsize : g.locals.size = c.maxLocals) {rest : List Value} (hs : g.stack = .ref a :: rest) (hd : decode c.code g.pc = .ok (.invokevirtual index, 3))
    (hf : 1 ≤ R.frames) {W cap : Nat} (hW : 2 * g.monitorRoom + (rest.map fun v => v.category).sum ≤ W) (hl : W + 14 ≤ R.locals) (hcap : n ≤ cap) (hc : cells + 1 ≤ R.cells) (hsl : slots + cap ≤ R.slots) :
    ∃ T' h', Stand p l e R s m args below meth c T' locs (cells + 1) (slots + cap) ∧ T'.heap = h' ∧ Ext h h' ∧ own_Ar Z h' h.size ty n f ∧ Exa Z h' h.size ad ∧
      ∀ target, Steps p.tables e below (T'.setTop { g with pc := g.pc + 3, stack := .ref h.size :: rest }) target → Steps p.tables e below (T.setTop g) target := by
  obtain ⟨cl, A1, r1, r2, r3, r4⟩ := A
  have FC : FitC Z cl := fitC_of A1 fun i hi v hv => by rw [r3 i (by omega)] at hv; cases hv; exact r4 i (by omega)
  obtain ⟨T', h', X', e', ex, A', E', st⟩ := cloneA X hx hZ hown w1 w2 w3 w4 w5 w6 eT A1 E FC hg hsize hs hd hf hW hl (by rw [r1]; exact hcap) hc hsl
  exact ⟨T', h', X', e', ex, ⟨cloneOf cl, A', r1, r2, r3, r4⟩, E', st⟩
/-- where the run of X's method stands, with other cells and slots made and other places written -/
abbrev own_StX {p : Program} {l : Launch} {e : Env} {R : Room} {s : State} {m : MethodId} {args : Array Value} {below : List Frame} {meth : Method} {c : Code} {T : State} {locs : List Loc} {cells slots : Nat} (X : Stand p l e R s m args below meth c T locs cells slots) (T' : State) (locs' : List Loc) (cells' slots' : Nat) : Prop := Stand p l e R s m args below meth c T' locs' cells' slots'
abbrev own_StT {p : Program} {l : Launch} {e : Env} {R : Room} {s : State} {m : MethodId} {args : Array Value} {below : List Frame} {meth : Method} {c : Code} {T : State} {locs : List Loc} {cells slots : Nat} (X : Stand p l e R s m args below meth c T locs cells slots) (T' : State) : Prop := Stand p l e R s m args below meth c T' locs cells slots
def own_max (p1 p2 : Int32) : Int32 := if p1 < p2 then p2 else p1
theorem own_max_t {p1 p2 : Int32} (h : p1 < p2) : own_max p1 p2 = p2 := if_pos h
theorem own_max_f {p1 p2 : Int32} (h : ¬ p1 < p2) : own_max p1 p2 = p1 := if_neg h
def own_min (p1 p2 : Int32) : Int32 := if p2 < p1 then p2 else p1
theorem own_min_t {p1 p2 : Int32} (h : p2 < p1) : own_min p1 p2 = p2 := if_pos h
theorem own_min_f {p1 p2 : Int32} (h : ¬ p2 < p1) : own_min p1 p2 = p1 := if_neg h
def own_maxL (p1 p2 : Int64) : Int64 := if p1 < p2 then p2 else p1
theorem own_maxL_t {p1 p2 : Int64} (h : p1 < p2) : own_maxL p1 p2 = p2 := if_pos h
theorem own_maxL_f {p1 p2 : Int64} (h : ¬ p1 < p2) : own_maxL p1 p2 = p1 := if_neg h
def own_minL (p1 p2 : Int64) : Int64 := if p2 < p1 then p2 else p1
theorem own_minL_t {p1 p2 : Int64} (h : p2 < p1) : own_minL p1 p2 = p2 := if_pos h
theorem own_minL_f {p1 p2 : Int64} (h : ¬ p2 < p1) : own_minL p1 p2 = p1 := if_neg h
theorem own_lt_of {p q : Int32} (h : p.toInt < q.toInt) : p < q := Int32.lt_iff_toInt_lt.mpr h
theorem own_nlt_of {p q : Int32} (h : q.toInt ≤ p.toInt) : ¬ p < q := fun u => by rw [Int32.lt_iff_toInt_lt] at u; omega
theorem own_ltL_of {p q : Int64} (h : p.toInt < q.toInt) : p < q := Int64.lt_iff_toInt_lt.mpr h
theorem own_nltL_of {p q : Int64} (h : q.toInt ≤ p.toInt) : ¬ p < q := fun u => by rw [Int64.lt_iff_toInt_lt] at u; omega
theorem own_ne_of {p q : Int32} (h : p.toInt ≠ q.toInt) : ¬ p = q := fun u => h (by rw [u])
theorem own_eq_of {p q : Int32} (h : p.toInt = q.toInt) : p = q := Int32.toInt_inj.mp h
def own_sh (p : Int32) : Int64 := (1 : Int64) <<< (p &&& 0x3f).toInt64
def own_t (x : Int64) (k : Nat) : Bool := x.toBitVec.getLsbD k
theorem own_p63 {p : Int32} {n : Nat} (h : p.toInt = n) : p.toBitVec.toNat % 64 = n % 64 := by
  have a := p.toBitVec.isLt
  have e : p.toBitVec.toInt = n := h
  rw [BitVec.toInt_eq_toNat_cond] at e
  split at e <;> omega
theorem own_shl_bv (x : Int64) {p : Int32} {n : Nat} (h : p.toInt = n) : (x <<< (p &&& 0x3f).toInt64).toBitVec = x.toBitVec <<< (n % 64) := by
  obtain ⟨e, lt⟩ := sm64 p (n % 64) (own_p63 h)
  rw [Int64.toBitVec_shiftLeft, e, BitVec.shiftLeft_eq', smod64 _ lt]
theorem own_t_sh {p : Int32} {n k : Nat} (h : p.toInt = n) (hk : k < 64) : own_t (own_sh p) k = decide (k = n % 64) := by
  unfold own_t own_sh
  rw [own_shl_bv 1 h, BitVec.getLsbD_shiftLeft]
  have o : ∀ j, (1 : Int64).toBitVec.getLsbD j = decide (j = 0) := fun j => by
    show (1#64).getLsbD j = _
    simp only [BitVec.getLsbD_one]; simp
  rw [o]
  by_cases u : k = n % 64
  · subst u; simp [hk]
  · by_cases v : k < n % 64
    · simp [v, u]
    · have : ¬ (k - n % 64 = 0) := by omega
      simp [this, u]
theorem own_t_or (x y : Int64) (k : Nat) : own_t (x ||| y) k = (own_t x k || own_t y k) := by
  unfold own_t; rw [Int64.toBitVec_or, BitVec.getLsbD_or]
theorem own_t_and (x y : Int64) (k : Nat) : own_t (x &&& y) k = (own_t x k && own_t y k) := by
  unfold own_t; rw [Int64.toBitVec_and, BitVec.getLsbD_and]
theorem own_t_m1 {k : Nat} (hk : k < 64) : own_t (-1) k = true := by
  have : ∀ k : Fin 64, own_t (-1) k.val = true := by decide
  exact this ⟨k, hk⟩
theorem own_t_not (x : Int64) {k : Nat} (hk : k < 64) : own_t (x ^^^ (-1)) k = !own_t x k := by
  have a := own_t_m1 hk
  unfold own_t at *
  rw [Int64.toBitVec_xor, BitVec.getLsbD_xor, a]; simp
theorem own_t_0 (k : Nat) : own_t 0 k = false := by
  unfold own_t; show (0#64).getLsbD k = false; simp
theorem own_t_m1shl {p : Int32} {n k : Nat} (h : p.toInt = n) (hk : k < 64) : own_t ((-1 : Int64) <<< (p &&& 0x3f).toInt64) k = decide (n % 64 ≤ k) := by
  have a := own_t_m1 (k := k - n % 64) (by omega)
  unfold own_t at *
  rw [own_shl_bv (-1) h, BitVec.getLsbD_shiftLeft]
  rw [a]
  by_cases v : k < n % 64
  · simp [v]
  · simp [v, hk, Nat.le_of_not_lt v]
theorem own_ne_m1 {x : Int64} {k : Nat} (hk : k < 64) (h : own_t x k = false) : ¬ x = -1 := fun e => by
  rw [e, own_t_m1 hk] at h; cases h
theorem own_ne_0 {x : Int64} {k : Nat} (h : own_t x k = true) : ¬ x = 0 := fun e => by
  rw [e, own_t_0] at h; cases h
theorem own_and_sh {x : Int64} {p : Int32} {n : Nat} (h : p.toInt = n) : (x &&& own_sh p) = 0 ↔ own_t x (n % 64) = false := by
  have lt : n % 64 < 64 := Nat.mod_lt _ (by decide)
  constructor
  · intro e
    have a := own_t_and x (own_sh p) (n % 64)
    rw [e, own_t_0, own_t_sh h lt] at a
    simpa using a.symm
  · intro e
    apply Int64.toBitVec_inj.mp
    apply BitVec.eq_of_getLsbD_eq
    intro i hi
    have a := own_t_and x (own_sh p) i
    rw [own_t_sh h hi] at a
    show own_t (x &&& own_sh p) i = own_t 0 i
    rw [a, own_t_0]
    by_cases u : i = n % 64
    · subst u; rw [e]; rfl
    · simp [u]
def own_sI (i t k : Int32) : Int32 := if t < i then (i.toUInt32 >>> (k &&& 31).toUInt32).toInt32 else i
def own_sN (i n t k : Int32) : Int32 := if t < i then n + k else n
theorem own_sI_t {i t k : Int32} (h : t < i) : own_sI i t k = (i.toUInt32 >>> (k &&& 31).toUInt32).toInt32 := if_pos h
theorem own_sI_f {i t k : Int32} (h : ¬ t < i) : own_sI i t k = i := if_neg h
theorem own_sN_t {i n t k : Int32} (h : t < i) : own_sN i n t k = n + k := if_pos h
theorem own_sN_f {i n t k : Int32} (h : ¬ t < i) : own_sN i n t k = n := if_neg h
def own_i0 (p : Int32) : Int32 := (p ^^^ (-1)) &&& (p - 1)
def own_i1 (p : Int32) : Int32 := own_sI (own_i0 p) 65536 16
def own_n1 (p : Int32) : Int32 := own_sN (own_i0 p) 1 65536 16
def own_i2 (p : Int32) : Int32 := own_sI (own_i1 p) 256 8
def own_n2 (p : Int32) : Int32 := own_sN (own_i1 p) (own_n1 p) 256 8
def own_i3 (p : Int32) : Int32 := own_sI (own_i2 p) 16 4
def own_n3 (p : Int32) : Int32 := own_sN (own_i2 p) (own_n2 p) 16 4
def own_i4 (p : Int32) : Int32 := own_sI (own_i3 p) 4 2
def own_n4 (p : Int32) : Int32 := own_sN (own_i3 p) (own_n3 p) 4 2
def own_ntz32 (p : Int32) : Int32 := if 0 < own_i0 p then own_n4 p + ((own_i4 p).toUInt32 >>> ((1 : Int32) &&& 31).toUInt32).toInt32 else own_i0 p &&& 32
theorem own_ntz_t {p : Int32} (h : 0 < own_i0 p) : own_ntz32 p = own_n4 p + ((own_i4 p).toUInt32 >>> ((1 : Int32) &&& 31).toUInt32).toInt32 := if_pos h
theorem own_ntz_f {p : Int32} (h : ¬ 0 < own_i0 p) : own_ntz32 p = own_i0 p &&& 32 := if_neg h
def own_hi32 (q : Int64) : Int32 := ((q.toUInt64 >>> ((32 : Int32) &&& 0x3f).toInt64.toUInt64).toInt64).toInt32
def own_ntz64 (q : Int64) : Int32 := if q.toInt32 = 0 then 32 + own_ntz32 (own_hi32 q) else own_ntz32 q.toInt32
theorem own_ntzL_t {q : Int64} (h : q.toInt32 = 0) : own_ntz64 q = 32 + own_ntz32 (own_hi32 q) := if_pos h
theorem own_ntzL_f {q : Int64} (h : ¬ q.toInt32 = 0) : own_ntz64 q = own_ntz32 q.toInt32 := if_neg h
def own_ffv (wd : Int32) (fr : Int64) : Int64 := (wd.toInt64 <<< ((6 : Int32) &&& 0x3f).toInt64) ||| (own_ntz64 fr).toInt64
def own_free (x : Int64) (p : Int32) : Int64 := (x ^^^ (-1)) &&& ((-1 : Int64) <<< (p &&& 0x3f).toInt64)
def own_wd (p : Int32) : Int32 := (p.toUInt32 >>> ((6 : Int32) &&& 31).toUInt32).toInt32
def own_wdL (q : Int64) : Int32 := ((q.toUInt64 >>> ((6 : Int32) &&& 0x3f).toInt64.toUInt64).toInt64).toInt32
theorem own_wd_v {p : Int32} {n : Nat} (h : p.toInt = n) : (own_wd p).toInt = (n / 64 : Nat) := by
  have a := c_iushr p 6 6 (by decide) (by decide)
  have r := rng32 p
  have e : (own_wd p).toInt = ((p.toUInt32 >>> ((6 : Int32) &&& 31).toUInt32).toInt32).toInt := rfl
  omega
theorem own_wdL_v {q : Int64} {n : Nat} (h : q.toInt = n) (b : n < 2147483648) : (own_wdL q).toInt = (n / 64 : Nat) := by
  have a := c_lushr q 6 6 (by decide) (by decide)
  have d := c_l2i ((q.toUInt64 >>> ((6 : Int32) &&& 0x3f).toInt64.toUInt64).toInt64)
  have e : (own_wdL q).toInt = (((q.toUInt64 >>> ((6 : Int32) &&& 0x3f).toInt64.toUInt64).toInt64).toInt32).toInt := rfl
  have r := rng32 (own_wdL q)
  omega
theorem own_l2i_v {q : Int64} {n : Nat} (h : q.toInt = n) (b : n < 2147483648) : q.toInt32.toInt = n := by
  have d := c_l2i q
  have r := rng32 q.toInt32
  omega
def own_gl (p : Int32) (n : Nat) : Int32 := (own_minL 2147483646 (own_maxL p.toInt64 (2 * (Int32.ofNat n).toInt64))).toInt32
theorem own_gl_v {p : Int32} {cp n : Nat} (h : p.toInt = cp) (h1 : cp ≤ 1024) (h2 : 2 * n ≤ 1024) : ∃ ln : Nat, (own_gl p n).toInt = ln ∧ cp ≤ ln ∧ n ≤ ln ∧ ln ≤ 1024 ∧ (ln = cp ∨ ln = 2 * n) := by
  have a := c_i2l p
  have b := own_ofNat (n := n) (by omega)
  have c := c_i2l (Int32.ofNat n)
  have d := c_lmul 2 (Int32.ofNat n).toInt64
  have r := rng64 (2 * (Int32.ofNat n).toInt64)
  have z2 : (2 : Int64).toInt = 2 := rfl
  have zm : (2147483646 : Int64).toInt = 2147483646 := rfl
  rw [z2, c, b] at d
  have e : (2 * (Int32.ofNat n).toInt64).toInt = 2 * n := by omega
  unfold own_gl
  by_cases q : p.toInt64 < 2 * (Int32.ofNat n).toInt64
  · rw [own_maxL_t q]
    rw [Int64.lt_iff_toInt_lt] at q
    rw [own_minL_t (own_ltL_of (by omega))]
    have f := c_l2i (2 * (Int32.ofNat n).toInt64)
    have rf := rng32 (2 * (Int32.ofNat n).toInt64).toInt32
    exact ⟨2 * n, by omega, by omega, by omega, by omega, Or.inr rfl⟩
  · rw [own_maxL_f q]
    rw [Int64.lt_iff_toInt_lt] at q
    rw [own_minL_t (own_ltL_of (by omega))]
    have f := c_l2i p.toInt64
    have rf := rng32 p.toInt64.toInt32
    exact ⟨cp, by omega, by omega, by omega, by omega, Or.inl rfl⟩
theorem own_w64 {x : Int32} {n : Nat} (h : x.toInt = n) (b : n ≤ 2000) : ((x + (63 : Int32)) / (64 : Int32)).toInt = ((n + 63) / 64 : Nat) := by
  have a := c_iadd x 63
  have r := rng32 (x + 63)
  have z : (63 : Int32).toInt = 63 := rfl
  have e : (x + 63).toInt = n + 63 := by omega
  have d := (c_idiv (x + 63) 64 64 rfl (by decide)).1 (by omega)
  omega
def own_low (p low : Int32) (x : Int64) : Int32 := if p = low then (own_ffv (own_wdL p.toInt64) (own_free x p.toInt64.toInt32)).toInt32 else low
theorem own_low_t {p low : Int32} {x : Int64} (h : p = low) : own_low p low x = (own_ffv (own_wdL p.toInt64) (own_free x p.toInt64.toInt32)).toInt32 := if_pos h
theorem own_low_f {p low : Int32} {x : Int64} (h : ¬ p = low) : own_low p low x = low := if_neg h
def own_fr (q : Int64) (n : Nat) (u : Nat → Int64) : Int32 := if q < 0 then 0 else if q < 2147483646 then (if q < (Int32.ofNat n).toInt64 then (if u (q.toInt.toNat / 64) &&& own_sh q.toInt32 = 0 then 1 else 0) else 1) else 0
theorem own_fr_1 {q : Int64} {n : Nat} {u : Nat → Int64} (h : q < 0) : own_fr q n u = 0 := if_pos h
theorem own_fr_2 {q : Int64} {n : Nat} {u : Nat → Int64} (h : ¬ q < 0) (g : ¬ q < 2147483646) : own_fr q n u = 0 := (if_neg h).trans (if_neg g)
theorem own_fr_3 {q : Int64} {n : Nat} {u : Nat → Int64} (h : ¬ q < 0) (g : q < 2147483646) (k : ¬ q < (Int32.ofNat n).toInt64) : own_fr q n u = 1 := (if_neg h).trans ((if_pos g).trans (if_neg k))
theorem own_fr_4 {q : Int64} {n : Nat} {u : Nat → Int64} (h : ¬ q < 0) (g : q < 2147483646) (k : q < (Int32.ofNat n).toInt64) (e : u (q.toInt.toNat / 64) &&& own_sh q.toInt32 = 0) : own_fr q n u = 1 := (if_neg h).trans ((if_pos g).trans ((if_pos k).trans (if_pos e)))
theorem own_fr_5 {q : Int64} {n : Nat} {u : Nat → Int64} (h : ¬ q < 0) (g : q < 2147483646) (k : q < (Int32.ofNat n).toInt64) (e : ¬ u (q.toInt.toNat / 64) &&& own_sh q.toInt32 = 0) : own_fr q n u = 0 := (if_neg h).trans ((if_pos g).trans ((if_pos k).trans (if_neg e)))
theorem own_qn {q : Int64} (h : ¬ q < 0) : q.toInt = (q.toInt.toNat : Int) := by
  rw [Int64.lt_iff_toInt_lt] at h; have z : (0 : Int64).toInt = 0 := rfl; omega
theorem own_Sta_keep1 {Z : State} {h h' : Heap} {C n d : String} {v : Value} {ws : List Addr} (S : Sta Z h C n d v) (K : Keep h h' ws) (q : ∀ x ∈ ws, ∃ c : Cell, h[x]? = some c ∧ c.vm.isStatics = false) : Sta Z h' C n d v := by
  obtain ⟨cf, i, k, f, st, cell, h1, h2, h3, h4, h5, h6, h7⟩ := S
  refine ⟨cf, i, k, f, st, cell, h1, h2, h3, h4, K.2.1 _ _ h5 (fun m => ?_), h6, h7⟩
  obtain ⟨c, g1, g2⟩ := q _ m
  cases h5.symm.trans g1
  rw [h6] at g2; cases g2
theorem own_cellE {Z : State} {h : Heap} {a : Addr} {C : String} (E : Exa Z h a C) : ∃ c : Cell, h[a]? = some c ∧ c.vm.isStatics = false := by
  obtain ⟨c, k, h1, -, -, h4, -⟩ := E; exact ⟨c, h1, h4⟩
def own_inr (q : Int64) : Int32 := if q < 0 then 0 else if q < 2147483646 then 1 else 0
def own_ua (ra : Int32) (q : Int64) (av : Int32) : Int32 := if ra = 0 then (if q = av.toInt64 then 1 else 0) else 0
def own_ub (ob : Int32) (q : Int64) (bv : Int32) : Int32 := if ob = 0 then 0 else (if q = bv.toInt64 then 1 else 0)
def own_ex (x y z : Int32) : Int32 := if x = 0 then 0 else if y = 0 then (if z = 0 then 1 else 0) else 0
def own_q (md av bv : Int32) (q0 : Int64) : Int64 := if md = 2 then av.toInt64 else if md = 3 then bv.toInt64 else if md = 4 then (q0 &&& (1023 : Int64)) - (4 : Int64) else if md = 5 then (2147483644 : Int64) + (q0 &&& (7 : Int64)) else if md = 6 then (4294967296 : Int64) + (q0 &&& (1023 : Int64)) else if md = 7 then (-9223372036854775808 : Int64) + (q0 &&& (1023 : Int64)) else q0
def own_ob (f bv av : Int32) : Int32 := if f = 0 then 0 else if bv = av then 0 else 1
def own_flag (p : Int32) : Int32 := if p = 0 then 0 else 1
theorem own_flag_0 {p : Int32} (h : p = 0) : own_flag p = 0 := if_pos h
theorem own_flag_1 {p : Int32} (h : ¬ p = 0) : own_flag p = 1 := if_neg h
/-- which cells the words of u say are taken -/
def own_U (u : Nat → Int64) (S : Nat → Prop) : Prop := ∀ k : Nat, own_t (u (k / 64)) (k % 64) = true ↔ S k
/-- the last word of the law, in plain numbers: S says which cells are taken -/
theorem own_last {q : Int64} {n an bn : Nat} {u : Nat → Int64} {ra ob av bv : Int32} (hn : n < 2147483648) (ha : av.toInt = an) (hb : bv.toInt = bn) (han : an < n) (hbn : ¬ ob = 0 → bn < n)
    {S : Nat → Prop} (hu : own_U u S) (hS : ∀ k : Nat, S k ↔ ((ra = 0 ∧ k = an) ∨ (¬ ob = 0 ∧ k = bn))) : own_fr q n u = own_ex (own_inr q) (own_ua ra q av) (own_ub ob q bv) := by
  have z0 : (0 : Int64).toInt = 0 := rfl
  have zm : (2147483646 : Int64).toInt = 2147483646 := rfl
  have ia := c_i2l av
  have ib := c_i2l bv
  have lenv : (Int32.ofNat n).toInt64.toInt = n := by rw [c_i2l]; exact own_ofNat hn
  by_cases h1 : q < 0
  · rw [own_fr_1 h1]; unfold own_inr own_ex; rw [if_pos h1]; rfl
  · have hqn := own_qn h1
    by_cases h2 : q < 2147483646
    · have hin : own_inr q = 1 := (if_neg h1).trans (if_pos h2)
      have h2' := h2
      rw [Int64.lt_iff_toInt_lt] at h2'
      rw [hin]
      generalize hk : q.toInt.toNat = k at *
      have eA : q = av.toInt64 ↔ k = an := by rw [← Int64.toInt_inj, ia, ha]; omega
      have eB : q = bv.toInt64 ↔ k = bn := by rw [← Int64.toInt_inj, ib, hb]; omega
      have exv : own_ex 1 (own_ua ra q av) (own_ub ob q bv) = if (ra = 0 ∧ k = an) ∨ (¬ ob = 0 ∧ k = bn) then 0 else 1 := by
        unfold own_ex own_ua own_ub
        by_cases c1 : ra = 0 <;> by_cases c2 : k = an <;> by_cases c3 : ob = 0 <;> by_cases c4 : k = bn <;> simp [c1, c2, c3, c4, eA, eB] <;> simp_all
      rw [exv]
      by_cases h3 : q < (Int32.ofNat n).toInt64
      · have t := (hu k).trans (hS k)
        have ql := own_l2i_v hqn (by omega)
        have w := own_and_sh (x := u (k / 64)) ql
        by_cases h4 : u (k / 64) &&& own_sh q.toInt32 = 0
        · rw [own_fr_4 h1 h2 h3 (by rw [hk]; exact h4)]
          rw [if_neg (fun q => by have := t.mpr q; rw [w.mp h4] at this; cases this)]
        · rw [own_fr_5 h1 h2 h3 (by rw [hk]; exact h4)]
          have t2 : own_t (u (k / 64)) (k % 64) = true := by
            cases e : own_t (u (k / 64)) (k % 64) with
            | true => rfl
            | false => exact absurd (w.mpr e) h4
          rw [if_pos (t.mp t2)]
      · rw [own_fr_3 h1 h2 h3]
        rw [Int64.lt_iff_toInt_lt] at h3
        rw [if_neg (fun u => by rcases u with ⟨-, rfl⟩ | ⟨x, rfl⟩; omega; have := hbn x; omega)]
    · rw [own_fr_2 h1 h2]; unfold own_inr own_ex; rw [if_neg h1, if_neg h2]; rfl
/-- the taken cells: none, one more, one less -/
theorem own_U_add {u : Nat → Int64} {S : Nat → Prop} {p : Int32} {n : Nat} (h : p.toInt = n) (hu : own_U u S) : own_U (fun i => if i = n / 64 then u i ||| own_sh p else u i) (fun k => S k ∨ k = n) := by
  intro k
  dsimp only
  by_cases e : k / 64 = n / 64
  · rw [if_pos e, own_t_or, own_t_sh h (Nat.mod_lt _ (by decide)), Bool.or_eq_true, hu k, decide_eq_true_eq]
    have : (k % 64 = n % 64) ↔ k = n := by omega
    rw [this]
  · rw [if_neg e, hu k]
    have : ¬ k = n := fun q => e (by rw [q])
    simp [this]
theorem own_U_del {u : Nat → Int64} {S : Nat → Prop} {p : Int32} {n : Nat} (h : p.toInt = n) (hu : own_U u S) : own_U (fun i => if i = n / 64 then u i &&& (own_sh p ^^^ (-1)) else u i) (fun k => S k ∧ ¬ k = n) := by
  intro k
  dsimp only
  have lt : k % 64 < 64 := Nat.mod_lt _ (by decide)
  by_cases e : k / 64 = n / 64
  · rw [if_pos e, own_t_and, own_t_not _ lt, own_t_sh h lt, Bool.and_eq_true, hu k]
    have : (k % 64 = n % 64) ↔ k = n := by omega
    simp [this]
  · rw [if_neg e, hu k]
    have : ¬ k = n := fun q => e (by rw [q])
    simp [this]
theorem own_U_zero : own_U (fun _ => (0 : Int64)) (fun _ => False) := fun k => by
  dsimp only; rw [own_t_0]; simp
theorem own_hz_add {u : Nat → Int64} {nU c : Nat} {p : Int32} (hz : ∀ i, nU ≤ i → u i = 0) (h : c < nU) : ∀ i, nU ≤ i → (fun i => if i = c then u i ||| own_sh p else u i) i = 0 := fun i hi => by dsimp only; rw [if_neg (by omega)]; exact hz i hi
/-- a bit that is not taken, seen in its word -/
theorem own_bit_at {u : Nat → Int64} {S : Nat → Prop} {p : Int32} {n : Nat} (h : p.toInt = n) (hu : own_U u S) {j : Nat} (hj : j < 64) (hn : ¬ j = n % 64) (hS : ¬ S (64 * (n / 64) + j)) : own_t (u (n / 64) ||| own_sh p) j = false := by
  have a := hu (64 * (n / 64) + j)
  rw [show (64 * (n / 64) + j) / 64 = n / 64 by omega, show (64 * (n / 64) + j) % 64 = j by omega] at a
  have b : own_t (u (n / 64)) j = false := by
    cases e : own_t (u (n / 64)) j with
    | false => rfl
    | true => exact absurd (a.mp e) hS
  rw [own_t_or, b, own_t_sh h hj]
  simp [hn]
theorem own_free_ne {x : Int64} {p : Int32} {n j : Nat} (h : p.toInt = n) (hj : j < 64) (hx : own_t x j = false) (hn : n % 64 ≤ j) : ¬ own_free x p = 0 := by
  refine own_ne_0 (k := j) ?_
  unfold own_free
  rw [own_t_and, own_t_not _ hj, hx, own_t_m1shl h hj]
  simp [hn]
theorem own_cellV {Z : State} {h : Heap} {a : Addr} {ty : FieldType} {n : Nat} {f : Nat → Value} (V : own_Ar Z h a ty n f) : ∃ c : Cell, h[a]? = some c ∧ c.vm.isStatics = false := by
  obtain ⟨c, A, -⟩ := V; exact ⟨c, A.1, A.plain⟩
theorem own_j1 (n : Nat) : ∃ j, j < 64 ∧ ¬ j = n % 64 := by
  by_cases a : n % 64 = 0
  · exact ⟨1, by omega, by omega⟩
  · exact ⟨0, by omega, by omega⟩
theorem own_j2 (n m : Nat) : ∃ j, j < 64 ∧ ¬ j = n % 64 ∧ ¬ j = m % 64 := by
  by_cases a : n % 64 = 0 ∨ m % 64 = 0
  · by_cases b : n % 64 = 1 ∨ m % 64 = 1
    · exact ⟨2, by omega, by omega, by omega⟩
    · exact ⟨1, by omega, by omega, by omega⟩
  · exact ⟨0, by omega, by omega, by omega⟩
def own_C (Z : State) (h : Heap) (n0 : Nat) (a1 : Addr) (low sz : Int32) (bC bU bF bR : Addr) (nC nU nF : Nat) (fC : Nat → Value) (u ff : Nat → Int64) (r : Nat → Int32) : Prop :=
  Exa Z h a1 "com/example/twinbase/twinbase/CellSpace" ∧ Fld Z h a1 "com/example/twinbase/twinbase/CellSpace" "cells" "[J" (.ref bC) ∧ Fld Z h a1 "com/example/twinbase/twinbase/CellSpace" "used" "[J" (.ref bU) ∧ Fld Z h a1 "com/example/twinbase/twinbase/CellSpace" "full" "[J" (.ref bF) ∧ Fld Z h a1 "com/example/twinbase/twinbase/CellSpace" "resume" "[I" (.ref bR) ∧ Fld Z h a1 "com/example/twinbase/twinbase/CellSpace" "lowestFree" "I" (.int low) ∧ Fld Z h a1 "com/example/twinbase/twinbase/CellSpace" "size" "I" (.int sz) ∧ own_Ar Z h bC .long nC fC ∧ own_Ar Z h bU .long nU (fun i => .long (u i)) ∧ own_Ar Z h bF .long nF (fun i => .long (ff i)) ∧ own_Ar Z h bR .int 32 (fun i => .int (r i)) ∧ Exa Z h bC "[J" ∧ Exa Z h bU "[J" ∧ Exa Z h bF "[J" ∧ a1 ≠ bC ∧ a1 ≠ bU ∧ a1 ≠ bF ∧ a1 ≠ bR ∧ bC ≠ bU ∧ bC ≠ bF ∧ bC ≠ bR ∧ bU ≠ bF ∧ bU ≠ bR ∧ bF ≠ bR ∧ n0 ≤ bC ∧ n0 ≤ bU ∧ n0 ≤ bF ∧ n0 ≤ bR
theorem own_selfsel {s Z : State} {a0 args : Array Value} {y : MethodName} {n : Nat} (hZ : Z.Warmed39 s.vm) (wi : (Cond.instantiable y.cls n).before a0 Z = true) (wp : (Cond.privateMethod y).before a0 Z = true) (wm : (Cond.instanceMethod y).before a0 Z = true) (hy : y.cls ≠ "java/lang/invoke/MethodHandle" ∧ y.cls ≠ "java/lang/invoke/VarHandle") : (Cond.selects y.cls y y).before args s = true := by
  obtain ⟨c, k, h1, h2, h3, h4, -, -⟩ := Cond.instantiable_spec (mvT hZ wi : (Cond.instantiable y.cls n).before args s = true)
  exact Jvm.Stand.selects_self_of_private h1 h2 (Bool.or_eq_false_iff.mp h4).1 (Cond.privateMethod_at (mvP hZ wp (args := args))) (mvT hZ wm) hy
theorem pd_0 : parseMethodDescriptor "(I)V" = some ⟨[.int], none⟩ := by decide +kernel
theorem pd_1 : parseMethodDescriptor "()V" = some ⟨[], none⟩ := by decide +kernel
theorem pd_2 : parseMethodDescriptor "(JJ)J" = some ⟨[.long, .long], some .long⟩ := by decide +kernel
theorem pd_3 : parseMethodDescriptor "([JI)[J" = some ⟨[(.array .long), .int], some (.array .long)⟩ := by decide +kernel
theorem pd_4 : parseMethodDescriptor "()Ljava/lang/Object;" = some ⟨[], some (.object "java/lang/Object")⟩ := by decide +kernel
theorem pd_5 : parseMethodDescriptor "([JIIJ)V" = some ⟨[(.array .long), .int, .int, .long], none⟩ := by decide +kernel
theorem pd_6 : parseMethodDescriptor "(III)V" = some ⟨[.int, .int, .int], none⟩ := by decide +kernel
theorem pd_7 : parseMethodDescriptor "(II)I" = some ⟨[.int, .int], some .int⟩ := by decide +kernel
theorem pd_8 : parseMethodDescriptor "(Ljava/lang/Object;ILjava/lang/Object;II)V" = some ⟨[(.object "java/lang/Object"), .int, (.object "java/lang/Object"), .int, .int], none⟩ := by decide +kernel
theorem pd_9 : parseMethodDescriptor "(J)Z" = some ⟨[.long], some .boolean⟩ := by decide +kernel
theorem pd_10 : parseMethodDescriptor "(J)J" = some ⟨[.long], some .long⟩ := by decide +kernel
theorem pd_11 : parseMethodDescriptor "(J)I" = some ⟨[.long], some .int⟩ := by decide +kernel
theorem pd_12 : parseMethodDescriptor "(I)I" = some ⟨[.int], some .int⟩ := by decide +kernel
theorem d1_0 : decode prog_2_method_1_code 0 = .ok (.aload_n 0, 1) := by decide +kernel
theorem d1_1 : decode prog_2_method_1_code 1 = .ok (.invokespecial 1, 3) := by decide +kernel
theorem d1_4 : decode prog_2_method_1_code 4 = .ok (.aload_n 0, 1) := by decide +kernel
theorem d1_5 : decode prog_2_method_1_code 5 = .ok (.iconst 0, 1) := by decide +kernel
theorem d1_6 : decode prog_2_method_1_code 6 = .ok (.newarray .long, 2) := by decide +kernel
theorem d1_8 : decode prog_2_method_1_code 8 = .ok (.putfield 7, 3) := by decide +kernel
theorem d1_11 : decode prog_2_method_1_code 11 = .ok (.aload_n 0, 1) := by decide +kernel
theorem d1_12 : decode prog_2_method_1_code 12 = .ok (.iconst 0, 1) := by decide +kernel
theorem d1_13 : decode prog_2_method_1_code 13 = .ok (.newarray .long, 2) := by decide +kernel
theorem d1_15 : decode prog_2_method_1_code 15 = .ok (.putfield 13, 3) := by decide +kernel
theorem d1_18 : decode prog_2_method_1_code 18 = .ok (.aload_n 0, 1) := by decide +kernel
theorem d1_19 : decode prog_2_method_1_code 19 = .ok (.iconst 0, 1) := by decide +kernel
theorem d1_20 : decode prog_2_method_1_code 20 = .ok (.newarray .long, 2) := by decide +kernel
theorem d1_22 : decode prog_2_method_1_code 22 = .ok (.putfield 16, 3) := by decide +kernel
theorem d1_25 : decode prog_2_method_1_code 25 = .ok (.aload_n 0, 1) := by decide +kernel
theorem d1_26 : decode prog_2_method_1_code 26 = .ok (.bipush 32, 2) := by decide +kernel
theorem d1_28 : decode prog_2_method_1_code 28 = .ok (.newarray .int, 2) := by decide +kernel
theorem d1_30 : decode prog_2_method_1_code 30 = .ok (.putfield 19, 3) := by decide +kernel
theorem d1_33 : decode prog_2_method_1_code 33 = .ok (.aload_n 0, 1) := by decide +kernel
theorem d1_34 : decode prog_2_method_1_code 34 = .ok (.iload_n 1, 1) := by decide +kernel
theorem d1_35 : decode prog_2_method_1_code 35 = .ok (.invokevirtual 23, 3) := by decide +kernel
theorem d1_38 : decode prog_2_method_1_code 38 = .ok (.return_, 1) := by decide +kernel
theorem pn_1 : plainName "com/example/twinbase/twinbase/CellSpace" = true := by first | (simp [plainName, overriddenIn]; done) | decide +kernel
theorem d3_0 : decode prog_2_method_15_code 0 = .ok (.iload_n 1, 1) := by decide +kernel
theorem d3_1 : decode prog_2_method_15_code 1 = .ok (.ldc 103, 2) := by decide +kernel
theorem d3_3 : decode prog_2_method_15_code 3 = .ok (.if_icmp .le 7, 3) := by decide +kernel
theorem d3_6 : decode prog_2_method_15_code 6 = .ok (.invokestatic 90, 3) := by decide +kernel
theorem d3_9 : decode prog_2_method_15_code 9 = .ok (.athrow, 1) := by decide +kernel
theorem d3_10 : decode prog_2_method_15_code 10 = .ok (.aload_n 0, 1) := by decide +kernel
theorem d3_11 : decode prog_2_method_15_code 11 = .ok (.getfield 7, 3) := by decide +kernel
theorem d3_14 : decode prog_2_method_15_code 14 = .ok (.arraylength, 1) := by decide +kernel
theorem d3_15 : decode prog_2_method_15_code 15 = .ok (.istore_n 2, 1) := by decide +kernel
theorem d3_16 : decode prog_2_method_15_code 16 = .ok (.ldc2_w 57, 3) := by decide +kernel
theorem d3_19 : decode prog_2_method_15_code 19 = .ok (.iload_n 1, 1) := by decide +kernel
theorem d3_20 : decode prog_2_method_15_code 20 = .ok (.i2l, 1) := by decide +kernel
theorem d3_21 : decode prog_2_method_15_code 21 = .ok (.ldc2_w 104, 3) := by decide +kernel
theorem d3_24 : decode prog_2_method_15_code 24 = .ok (.iload_n 2, 1) := by decide +kernel
theorem d3_25 : decode prog_2_method_15_code 25 = .ok (.i2l, 1) := by decide +kernel
theorem d3_26 : decode prog_2_method_15_code 26 = .ok (.lmul, 1) := by decide +kernel
theorem d3_27 : decode prog_2_method_15_code 27 = .ok (.invokestatic 106, 3) := by decide +kernel
theorem d3_30 : decode prog_2_method_15_code 30 = .ok (.invokestatic 109, 3) := by decide +kernel
theorem d3_33 : decode prog_2_method_15_code 33 = .ok (.l2i, 1) := by decide +kernel
theorem d3_34 : decode prog_2_method_15_code 34 = .ok (.istore_n 3, 1) := by decide +kernel
theorem d3_35 : decode prog_2_method_15_code 35 = .ok (.aload_n 0, 1) := by decide +kernel
theorem d3_36 : decode prog_2_method_15_code 36 = .ok (.aload_n 0, 1) := by decide +kernel
theorem d3_37 : decode prog_2_method_15_code 37 = .ok (.getfield 7, 3) := by decide +kernel
theorem d3_40 : decode prog_2_method_15_code 40 = .ok (.iload_n 3, 1) := by decide +kernel
theorem d3_41 : decode prog_2_method_15_code 41 = .ok (.invokestatic 67, 3) := by decide +kernel
theorem d3_44 : decode prog_2_method_15_code 44 = .ok (.putfield 7, 3) := by decide +kernel
theorem d3_47 : decode prog_2_method_15_code 47 = .ok (.aload_n 0, 1) := by decide +kernel
theorem d3_48 : decode prog_2_method_15_code 48 = .ok (.getfield 7, 3) := by decide +kernel
theorem d3_51 : decode prog_2_method_15_code 51 = .ok (.iload_n 2, 1) := by decide +kernel
theorem d3_52 : decode prog_2_method_15_code 52 = .ok (.iload_n 3, 1) := by decide +kernel
theorem d3_53 : decode prog_2_method_15_code 53 = .ok (.getstatic 96, 3) := by decide +kernel
theorem d3_56 : decode prog_2_method_15_code 56 = .ok (.invokestatic 111, 3) := by decide +kernel
theorem d3_59 : decode prog_2_method_15_code 59 = .ok (.aload_n 0, 1) := by decide +kernel
theorem d3_60 : decode prog_2_method_15_code 60 = .ok (.aload_n 0, 1) := by decide +kernel
theorem d3_61 : decode prog_2_method_15_code 61 = .ok (.getfield 13, 3) := by decide +kernel
theorem d3_64 : decode prog_2_method_15_code 64 = .ok (.iload_n 3, 1) := by decide +kernel
theorem d3_65 : decode prog_2_method_15_code 65 = .ok (.bipush 63, 2) := by decide +kernel
theorem d3_67 : decode prog_2_method_15_code 67 = .ok (.iadd, 1) := by decide +kernel
theorem d3_68 : decode prog_2_method_15_code 68 = .ok (.bipush 64, 2) := by decide +kernel
theorem d3_70 : decode prog_2_method_15_code 70 = .ok (.idiv, 1) := by decide +kernel
theorem d3_71 : decode prog_2_method_15_code 71 = .ok (.invokestatic 67, 3) := by decide +kernel
theorem d3_74 : decode prog_2_method_15_code 74 = .ok (.putfield 13, 3) := by decide +kernel
theorem d3_77 : decode prog_2_method_15_code 77 = .ok (.aload_n 0, 1) := by decide +kernel
theorem d3_78 : decode prog_2_method_15_code 78 = .ok (.aload_n 0, 1) := by decide +kernel
theorem d3_79 : decode prog_2_method_15_code 79 = .ok (.getfield 16, 3) := by decide +kernel
theorem d3_82 : decode prog_2_method_15_code 82 = .ok (.aload_n 0, 1) := by decide +kernel
theorem d3_83 : decode prog_2_method_15_code 83 = .ok (.getfield 13, 3) := by decide +kernel
theorem d3_86 : decode prog_2_method_15_code 86 = .ok (.arraylength, 1) := by decide +kernel
theorem d3_87 : decode prog_2_method_15_code 87 = .ok (.bipush 63, 2) := by decide +kernel
theorem d3_89 : decode prog_2_method_15_code 89 = .ok (.iadd, 1) := by decide +kernel
theorem d3_90 : decode prog_2_method_15_code 90 = .ok (.bipush 64, 2) := by decide +kernel
theorem d3_92 : decode prog_2_method_15_code 92 = .ok (.idiv, 1) := by decide +kernel
theorem d3_93 : decode prog_2_method_15_code 93 = .ok (.invokestatic 67, 3) := by decide +kernel
theorem d3_96 : decode prog_2_method_15_code 96 = .ok (.putfield 16, 3) := by decide +kernel
theorem d3_99 : decode prog_2_method_15_code 99 = .ok (.return_, 1) := by decide +kernel
theorem pn_3 : plainName "com/example/twinbase/twinbase/CellSpace" = true := by first | (simp [plainName, overriddenIn]; done) | decide +kernel
theorem d4_0 : decode jdk_29_method_66_code 0 = .ok (.lload_n 0, 1) := by decide +kernel
theorem d4_1 : decode jdk_29_method_66_code 1 = .ok (.lload_n 2, 1) := by decide +kernel
theorem d4_2 : decode jdk_29_method_66_code 2 = .ok (.lcmp, 1) := by decide +kernel
theorem d4_3 : decode jdk_29_method_66_code 3 = .ok (.ifCond .lt 7, 3) := by decide +kernel
theorem d4_6 : decode jdk_29_method_66_code 6 = .ok (.lload_n 0, 1) := by decide +kernel
theorem d4_7 : decode jdk_29_method_66_code 7 = .ok (.goto 4, 3) := by decide +kernel
theorem d4_10 : decode jdk_29_method_66_code 10 = .ok (.lload_n 2, 1) := by decide +kernel
theorem d4_11 : decode jdk_29_method_66_code 11 = .ok (.lreturn, 1) := by decide +kernel
theorem d5_0 : decode jdk_29_method_70_code 0 = .ok (.lload_n 0, 1) := by decide +kernel
theorem d5_1 : decode jdk_29_method_70_code 1 = .ok (.lload_n 2, 1) := by decide +kernel
theorem d5_2 : decode jdk_29_method_70_code 2 = .ok (.lcmp, 1) := by decide +kernel
theorem d5_3 : decode jdk_29_method_70_code 3 = .ok (.ifCond .gt 7, 3) := by decide +kernel
theorem d5_6 : decode jdk_29_method_70_code 6 = .ok (.lload_n 0, 1) := by decide +kernel
theorem d5_7 : decode jdk_29_method_70_code 7 = .ok (.goto 4, 3) := by decide +kernel
theorem d5_10 : decode jdk_29_method_70_code 10 = .ok (.lload_n 2, 1) := by decide +kernel
theorem d5_11 : decode jdk_29_method_70_code 11 = .ok (.lreturn, 1) := by decide +kernel
theorem d6_0 : decode jdk_65_method_124_code 0 = .ok (.iload_n 1, 1) := by decide +kernel
theorem d6_1 : decode jdk_65_method_124_code 1 = .ok (.aload_n 0, 1) := by decide +kernel
theorem d6_2 : decode jdk_65_method_124_code 2 = .ok (.arraylength, 1) := by decide +kernel
theorem d6_3 : decode jdk_65_method_124_code 3 = .ok (.if_icmp .ne 11, 3) := by decide +kernel
theorem d6_6 : decode jdk_65_method_124_code 6 = .ok (.aload_n 0, 1) := by decide +kernel
theorem d6_7 : decode jdk_65_method_124_code 7 = .ok (.invokevirtual 319, 3) := by decide +kernel
theorem d6_10 : decode jdk_65_method_124_code 10 = .ok (.checkcast 320, 3) := by decide +kernel
theorem d6_13 : decode jdk_65_method_124_code 13 = .ok (.areturn, 1) := by decide +kernel
theorem d6_14 : decode jdk_65_method_124_code 14 = .ok (.iload_n 1, 1) := by decide +kernel
theorem d6_15 : decode jdk_65_method_124_code 15 = .ok (.newarray .long, 2) := by decide +kernel
theorem d6_17 : decode jdk_65_method_124_code 17 = .ok (.astore_n 2, 1) := by decide +kernel
theorem d6_18 : decode jdk_65_method_124_code 18 = .ok (.aload_n 0, 1) := by decide +kernel
theorem d6_19 : decode jdk_65_method_124_code 19 = .ok (.iconst 0, 1) := by decide +kernel
theorem d6_20 : decode jdk_65_method_124_code 20 = .ok (.aload_n 2, 1) := by decide +kernel
theorem d6_21 : decode jdk_65_method_124_code 21 = .ok (.iconst 0, 1) := by decide +kernel
theorem d6_22 : decode jdk_65_method_124_code 22 = .ok (.aload_n 0, 1) := by decide +kernel
theorem d6_23 : decode jdk_65_method_124_code 23 = .ok (.arraylength, 1) := by decide +kernel
theorem d6_24 : decode jdk_65_method_124_code 24 = .ok (.iload_n 1, 1) := by decide +kernel
theorem d6_25 : decode jdk_65_method_124_code 25 = .ok (.invokestatic 304, 3) := by decide +kernel
theorem d6_28 : decode jdk_65_method_124_code 28 = .ok (.invokestatic 150, 3) := by decide +kernel
theorem d6_31 : decode jdk_65_method_124_code 31 = .ok (.aload_n 2, 1) := by decide +kernel
theorem d6_32 : decode jdk_65_method_124_code 32 = .ok (.areturn, 1) := by decide +kernel
theorem pn_6 : plainName "java/util/Arrays" = true := by first | (simp [plainName, overriddenIn]; done) | decide +kernel
theorem d7_0 : decode jdk_65_method_102_code 0 = .ok (.aload_n 0, 1) := by decide +kernel
theorem d7_1 : decode jdk_65_method_102_code 1 = .ok (.arraylength, 1) := by decide +kernel
theorem d7_2 : decode jdk_65_method_102_code 2 = .ok (.iload_n 1, 1) := by decide +kernel
theorem d7_3 : decode jdk_65_method_102_code 3 = .ok (.iload_n 2, 1) := by decide +kernel
theorem d7_4 : decode jdk_65_method_102_code 4 = .ok (.invokestatic 13, 3) := by decide +kernel
theorem d7_7 : decode jdk_65_method_102_code 7 = .ok (.iload_n 1, 1) := by decide +kernel
theorem d7_8 : decode jdk_65_method_102_code 8 = .ok (.istore 5, 2) := by decide +kernel
theorem d7_10 : decode jdk_65_method_102_code 10 = .ok (.iload 5, 2) := by decide +kernel
theorem d7_12 : decode jdk_65_method_102_code 12 = .ok (.iload_n 2, 1) := by decide +kernel
theorem d7_13 : decode jdk_65_method_102_code 13 = .ok (.if_icmp .ge 14, 3) := by decide +kernel
theorem d7_16 : decode jdk_65_method_102_code 16 = .ok (.aload_n 0, 1) := by decide +kernel
theorem d7_17 : decode jdk_65_method_102_code 17 = .ok (.iload 5, 2) := by decide +kernel
theorem d7_19 : decode jdk_65_method_102_code 19 = .ok (.lload_n 3, 1) := by decide +kernel
theorem d7_20 : decode jdk_65_method_102_code 20 = .ok (.lastore, 1) := by decide +kernel
theorem d7_21 : decode jdk_65_method_102_code 21 = .ok (.iinc 5 1, 3) := by decide +kernel
theorem d7_24 : decode jdk_65_method_102_code 24 = .ok (.goto (-14), 3) := by decide +kernel
theorem d7_27 : decode jdk_65_method_102_code 27 = .ok (.return_, 1) := by decide +kernel
theorem pn_7 : plainName "java/util/Arrays" = true := by first | (simp [plainName, overriddenIn]; done) | decide +kernel
theorem d8_0 : decode jdk_65_method_30_code 0 = .ok (.iload_n 1, 1) := by decide +kernel
theorem d8_1 : decode jdk_65_method_30_code 1 = .ok (.iload_n 2, 1) := by decide +kernel
theorem d8_2 : decode jdk_65_method_30_code 2 = .ok (.if_icmp .le 44, 3) := by decide +kernel
theorem d8_5 : decode jdk_65_method_30_code 5 = .ok (.new 43, 3) := by decide +kernel
theorem d8_8 : decode jdk_65_method_30_code 8 = .ok (.dup, 1) := by decide +kernel
theorem d8_9 : decode jdk_65_method_30_code 9 = .ok (.new 45, 3) := by decide +kernel
theorem d8_12 : decode jdk_65_method_30_code 12 = .ok (.dup, 1) := by decide +kernel
theorem d8_13 : decode jdk_65_method_30_code 13 = .ok (.invokespecial 47, 3) := by decide +kernel
theorem d8_16 : decode jdk_65_method_30_code 16 = .ok (.ldc 48, 2) := by decide +kernel
theorem d8_18 : decode jdk_65_method_30_code 18 = .ok (.invokevirtual 50, 3) := by decide +kernel
theorem d8_21 : decode jdk_65_method_30_code 21 = .ok (.iload_n 1, 1) := by decide +kernel
theorem d8_22 : decode jdk_65_method_30_code 22 = .ok (.invokevirtual 54, 3) := by decide +kernel
theorem d8_25 : decode jdk_65_method_30_code 25 = .ok (.ldc 57, 2) := by decide +kernel
theorem d8_27 : decode jdk_65_method_30_code 27 = .ok (.invokevirtual 50, 3) := by decide +kernel
theorem d8_30 : decode jdk_65_method_30_code 30 = .ok (.iload_n 2, 1) := by decide +kernel
theorem d8_31 : decode jdk_65_method_30_code 31 = .ok (.invokevirtual 54, 3) := by decide +kernel
theorem d8_34 : decode jdk_65_method_30_code 34 = .ok (.ldc 59, 2) := by decide +kernel
theorem d8_36 : decode jdk_65_method_30_code 36 = .ok (.invokevirtual 50, 3) := by decide +kernel
theorem d8_39 : decode jdk_65_method_30_code 39 = .ok (.invokevirtual 61, 3) := by decide +kernel
theorem d8_42 : decode jdk_65_method_30_code 42 = .ok (.invokespecial 65, 3) := by decide +kernel
theorem d8_45 : decode jdk_65_method_30_code 45 = .ok (.athrow, 1) := by decide +kernel
theorem d8_46 : decode jdk_65_method_30_code 46 = .ok (.iload_n 1, 1) := by decide +kernel
theorem d8_47 : decode jdk_65_method_30_code 47 = .ok (.ifCond .ge 12, 3) := by decide +kernel
theorem d8_50 : decode jdk_65_method_30_code 50 = .ok (.new 68, 3) := by decide +kernel
theorem d8_53 : decode jdk_65_method_30_code 53 = .ok (.dup, 1) := by decide +kernel
theorem d8_54 : decode jdk_65_method_30_code 54 = .ok (.iload_n 1, 1) := by decide +kernel
theorem d8_55 : decode jdk_65_method_30_code 55 = .ok (.invokespecial 70, 3) := by decide +kernel
theorem d8_58 : decode jdk_65_method_30_code 58 = .ok (.athrow, 1) := by decide +kernel
theorem d8_59 : decode jdk_65_method_30_code 59 = .ok (.iload_n 2, 1) := by decide +kernel
theorem d8_60 : decode jdk_65_method_30_code 60 = .ok (.iload_n 0, 1) := by decide +kernel
theorem d8_61 : decode jdk_65_method_30_code 61 = .ok (.if_icmp .le 12, 3) := by decide +kernel
theorem d8_64 : decode jdk_65_method_30_code 64 = .ok (.new 68, 3) := by decide +kernel
theorem d8_67 : decode jdk_65_method_30_code 67 = .ok (.dup, 1) := by decide +kernel
theorem d8_68 : decode jdk_65_method_30_code 68 = .ok (.iload_n 2, 1) := by decide +kernel
theorem d8_69 : decode jdk_65_method_30_code 69 = .ok (.invokespecial 70, 3) := by decide +kernel
theorem d8_72 : decode jdk_65_method_30_code 72 = .ok (.athrow, 1) := by decide +kernel
theorem d8_73 : decode jdk_65_method_30_code 73 = .ok (.return_, 1) := by decide +kernel
theorem pn_8 : plainName "java/util/Arrays" = true := by first | (simp [plainName, overriddenIn]; done) | decide +kernel
theorem d9_0 : decode prog_2_method_11_code 0 = .ok (.iload_n 1, 1) := by decide +kernel
theorem d9_1 : decode prog_2_method_11_code 1 = .ok (.aload_n 0, 1) := by decide +kernel
theorem d9_2 : decode prog_2_method_11_code 2 = .ok (.getfield 7, 3) := by decide +kernel
theorem d9_5 : decode prog_2_method_11_code 5 = .ok (.arraylength, 1) := by decide +kernel
theorem d9_6 : decode prog_2_method_11_code 6 = .ok (.if_icmp .lt 10, 3) := by decide +kernel
theorem d9_9 : decode prog_2_method_11_code 9 = .ok (.aload_n 0, 1) := by decide +kernel
theorem d9_10 : decode prog_2_method_11_code 10 = .ok (.iload_n 1, 1) := by decide +kernel
theorem d9_11 : decode prog_2_method_11_code 11 = .ok (.iconst 1, 1) := by decide +kernel
theorem d9_12 : decode prog_2_method_11_code 12 = .ok (.iadd, 1) := by decide +kernel
theorem d9_13 : decode prog_2_method_11_code 13 = .ok (.invokevirtual 23, 3) := by decide +kernel
theorem d9_16 : decode prog_2_method_11_code 16 = .ok (.iload_n 1, 1) := by decide +kernel
theorem d9_17 : decode prog_2_method_11_code 17 = .ok (.bipush 6, 2) := by decide +kernel
theorem d9_19 : decode prog_2_method_11_code 19 = .ok (.iushr, 1) := by decide +kernel
theorem d9_20 : decode prog_2_method_11_code 20 = .ok (.istore_n 2, 1) := by decide +kernel
theorem d9_21 : decode prog_2_method_11_code 21 = .ok (.aload_n 0, 1) := by decide +kernel
theorem d9_22 : decode prog_2_method_11_code 22 = .ok (.getfield 13, 3) := by decide +kernel
theorem d9_25 : decode prog_2_method_11_code 25 = .ok (.iload_n 2, 1) := by decide +kernel
theorem d9_26 : decode prog_2_method_11_code 26 = .ok (.dup2, 1) := by decide +kernel
theorem d9_27 : decode prog_2_method_11_code 27 = .ok (.laload, 1) := by decide +kernel
theorem d9_28 : decode prog_2_method_11_code 28 = .ok (.lconst 1, 1) := by decide +kernel
theorem d9_29 : decode prog_2_method_11_code 29 = .ok (.iload_n 1, 1) := by decide +kernel
theorem d9_30 : decode prog_2_method_11_code 30 = .ok (.lshl, 1) := by decide +kernel
theorem d9_31 : decode prog_2_method_11_code 31 = .ok (.lor, 1) := by decide +kernel
theorem d9_32 : decode prog_2_method_11_code 32 = .ok (.lastore, 1) := by decide +kernel
theorem d9_33 : decode prog_2_method_11_code 33 = .ok (.aload_n 0, 1) := by decide +kernel
theorem d9_34 : decode prog_2_method_11_code 34 = .ok (.getfield 13, 3) := by decide +kernel
theorem d9_37 : decode prog_2_method_11_code 37 = .ok (.iload_n 2, 1) := by decide +kernel
theorem d9_38 : decode prog_2_method_11_code 38 = .ok (.laload, 1) := by decide +kernel
theorem d9_39 : decode prog_2_method_11_code 39 = .ok (.ldc2_w 80, 3) := by decide +kernel
theorem d9_42 : decode prog_2_method_11_code 42 = .ok (.lcmp, 1) := by decide +kernel
theorem d9_43 : decode prog_2_method_11_code 43 = .ok (.ifCond .ne 18, 3) := by decide +kernel
theorem d9_46 : decode prog_2_method_11_code 46 = .ok (.aload_n 0, 1) := by decide +kernel
theorem d9_47 : decode prog_2_method_11_code 47 = .ok (.getfield 16, 3) := by decide +kernel
theorem d9_50 : decode prog_2_method_11_code 50 = .ok (.iload_n 2, 1) := by decide +kernel
theorem d9_51 : decode prog_2_method_11_code 51 = .ok (.bipush 6, 2) := by decide +kernel
theorem d9_53 : decode prog_2_method_11_code 53 = .ok (.iushr, 1) := by decide +kernel
theorem d9_54 : decode prog_2_method_11_code 54 = .ok (.dup2, 1) := by decide +kernel
theorem d9_55 : decode prog_2_method_11_code 55 = .ok (.laload, 1) := by decide +kernel
theorem d9_56 : decode prog_2_method_11_code 56 = .ok (.lconst 1, 1) := by decide +kernel
theorem d9_57 : decode prog_2_method_11_code 57 = .ok (.iload_n 2, 1) := by decide +kernel
theorem d9_58 : decode prog_2_method_11_code 58 = .ok (.lshl, 1) := by decide +kernel
theorem d9_59 : decode prog_2_method_11_code 59 = .ok (.lor, 1) := by decide +kernel
theorem d9_60 : decode prog_2_method_11_code 60 = .ok (.lastore, 1) := by decide +kernel
theorem d9_61 : decode prog_2_method_11_code 61 = .ok (.aload_n 0, 1) := by decide +kernel
theorem d9_62 : decode prog_2_method_11_code 62 = .ok (.aload_n 0, 1) := by decide +kernel
theorem d9_63 : decode prog_2_method_11_code 63 = .ok (.getfield 59, 3) := by decide +kernel
theorem d9_66 : decode prog_2_method_11_code 66 = .ok (.iload_n 1, 1) := by decide +kernel
theorem d9_67 : decode prog_2_method_11_code 67 = .ok (.iconst 1, 1) := by decide +kernel
theorem d9_68 : decode prog_2_method_11_code 68 = .ok (.iadd, 1) := by decide +kernel
theorem d9_69 : decode prog_2_method_11_code 69 = .ok (.invokestatic 27, 3) := by decide +kernel
theorem d9_72 : decode prog_2_method_11_code 72 = .ok (.putfield 59, 3) := by decide +kernel
theorem d9_75 : decode prog_2_method_11_code 75 = .ok (.iload_n 1, 1) := by decide +kernel
theorem d9_76 : decode prog_2_method_11_code 76 = .ok (.aload_n 0, 1) := by decide +kernel
theorem d9_77 : decode prog_2_method_11_code 77 = .ok (.getfield 73, 3) := by decide +kernel
theorem d9_80 : decode prog_2_method_11_code 80 = .ok (.if_icmp .ne 14, 3) := by decide +kernel
theorem d9_83 : decode prog_2_method_11_code 83 = .ok (.aload_n 0, 1) := by decide +kernel
theorem d9_84 : decode prog_2_method_11_code 84 = .ok (.aload_n 0, 1) := by decide +kernel
theorem d9_85 : decode prog_2_method_11_code 85 = .ok (.iload_n 1, 1) := by decide +kernel
theorem d9_86 : decode prog_2_method_11_code 86 = .ok (.i2l, 1) := by decide +kernel
theorem d9_87 : decode prog_2_method_11_code 87 = .ok (.invokevirtual 76, 3) := by decide +kernel
theorem d9_90 : decode prog_2_method_11_code 90 = .ok (.l2i, 1) := by decide +kernel
theorem d9_91 : decode prog_2_method_11_code 91 = .ok (.putfield 73, 3) := by decide +kernel
theorem d9_94 : decode prog_2_method_11_code 94 = .ok (.return_, 1) := by decide +kernel
theorem pn_9 : plainName "com/example/twinbase/twinbase/CellSpace" = true := by first | (simp [plainName, overriddenIn]; done) | decide +kernel
theorem d10_0 : decode jdk_29_method_69_code 0 = .ok (.iload_n 0, 1) := by decide +kernel
theorem d10_1 : decode jdk_29_method_69_code 1 = .ok (.iload_n 1, 1) := by decide +kernel
theorem d10_2 : decode jdk_29_method_69_code 2 = .ok (.if_icmp .gt 7, 3) := by decide +kernel
theorem d10_5 : decode jdk_29_method_69_code 5 = .ok (.iload_n 0, 1) := by decide +kernel
theorem d10_6 : decode jdk_29_method_69_code 6 = .ok (.goto 4, 3) := by decide +kernel
theorem d10_9 : decode jdk_29_method_69_code 9 = .ok (.iload_n 1, 1) := by decide +kernel
theorem d10_10 : decode jdk_29_method_69_code 10 = .ok (.ireturn, 1) := by decide +kernel
theorem d11_0 : decode jdk_29_method_65_code 0 = .ok (.iload_n 0, 1) := by decide +kernel
theorem d11_1 : decode jdk_29_method_65_code 1 = .ok (.iload_n 1, 1) := by decide +kernel
theorem d11_2 : decode jdk_29_method_65_code 2 = .ok (.if_icmp .lt 7, 3) := by decide +kernel
theorem d11_5 : decode jdk_29_method_65_code 5 = .ok (.iload_n 0, 1) := by decide +kernel
theorem d11_6 : decode jdk_29_method_65_code 6 = .ok (.goto 4, 3) := by decide +kernel
theorem d11_9 : decode jdk_29_method_65_code 9 = .ok (.iload_n 1, 1) := by decide +kernel
theorem d11_10 : decode jdk_29_method_65_code 10 = .ok (.ireturn, 1) := by decide +kernel
theorem d12_0 : decode prog_2_method_8_code 0 = .ok (.lload_n 1, 1) := by decide +kernel
theorem d12_1 : decode prog_2_method_8_code 1 = .ok (.lconst 0, 1) := by decide +kernel
theorem d12_2 : decode prog_2_method_8_code 2 = .ok (.lcmp, 1) := by decide +kernel
theorem d12_3 : decode prog_2_method_8_code 3 = .ok (.ifCond .lt 11, 3) := by decide +kernel
theorem d12_6 : decode prog_2_method_8_code 6 = .ok (.lload_n 1, 1) := by decide +kernel
theorem d12_7 : decode prog_2_method_8_code 7 = .ok (.ldc2_w 57, 3) := by decide +kernel
theorem d12_10 : decode prog_2_method_8_code 10 = .ok (.lcmp, 1) := by decide +kernel
theorem d12_11 : decode prog_2_method_8_code 11 = .ok (.ifCond .lt 5, 3) := by decide +kernel
theorem d12_14 : decode prog_2_method_8_code 14 = .ok (.iconst 0, 1) := by decide +kernel
theorem d12_15 : decode prog_2_method_8_code 15 = .ok (.ireturn, 1) := by decide +kernel
theorem d12_16 : decode prog_2_method_8_code 16 = .ok (.lload_n 1, 1) := by decide +kernel
theorem d12_17 : decode prog_2_method_8_code 17 = .ok (.aload_n 0, 1) := by decide +kernel
theorem d12_18 : decode prog_2_method_8_code 18 = .ok (.getfield 7, 3) := by decide +kernel
theorem d12_21 : decode prog_2_method_8_code 21 = .ok (.arraylength, 1) := by decide +kernel
theorem d12_22 : decode prog_2_method_8_code 22 = .ok (.i2l, 1) := by decide +kernel
theorem d12_23 : decode prog_2_method_8_code 23 = .ok (.lcmp, 1) := by decide +kernel
theorem d12_24 : decode prog_2_method_8_code 24 = .ok (.ifCond .ge 23, 3) := by decide +kernel
theorem d12_27 : decode prog_2_method_8_code 27 = .ok (.aload_n 0, 1) := by decide +kernel
theorem d12_28 : decode prog_2_method_8_code 28 = .ok (.getfield 13, 3) := by decide +kernel
theorem d12_31 : decode prog_2_method_8_code 31 = .ok (.lload_n 1, 1) := by decide +kernel
theorem d12_32 : decode prog_2_method_8_code 32 = .ok (.bipush 6, 2) := by decide +kernel
theorem d12_34 : decode prog_2_method_8_code 34 = .ok (.lushr, 1) := by decide +kernel
theorem d12_35 : decode prog_2_method_8_code 35 = .ok (.l2i, 1) := by decide +kernel
theorem d12_36 : decode prog_2_method_8_code 36 = .ok (.laload, 1) := by decide +kernel
theorem d12_37 : decode prog_2_method_8_code 37 = .ok (.lconst 1, 1) := by decide +kernel
theorem d12_38 : decode prog_2_method_8_code 38 = .ok (.lload_n 1, 1) := by decide +kernel
theorem d12_39 : decode prog_2_method_8_code 39 = .ok (.l2i, 1) := by decide +kernel
theorem d12_40 : decode prog_2_method_8_code 40 = .ok (.lshl, 1) := by decide +kernel
theorem d12_41 : decode prog_2_method_8_code 41 = .ok (.land, 1) := by decide +kernel
theorem d12_42 : decode prog_2_method_8_code 42 = .ok (.lconst 0, 1) := by decide +kernel
theorem d12_43 : decode prog_2_method_8_code 43 = .ok (.lcmp, 1) := by decide +kernel
theorem d12_44 : decode prog_2_method_8_code 44 = .ok (.ifCond .ne 7, 3) := by decide +kernel
theorem d12_47 : decode prog_2_method_8_code 47 = .ok (.iconst 1, 1) := by decide +kernel
theorem d12_48 : decode prog_2_method_8_code 48 = .ok (.goto 4, 3) := by decide +kernel
theorem d12_51 : decode prog_2_method_8_code 51 = .ok (.iconst 0, 1) := by decide +kernel
theorem d12_52 : decode prog_2_method_8_code 52 = .ok (.ireturn, 1) := by decide +kernel
theorem pn_12 : plainName "com/example/twinbase/twinbase/CellSpace" = true := by first | (simp [plainName, overriddenIn]; done) | decide +kernel
theorem d13_0 : decode prog_2_method_12_code 0 = .ok (.aload_n 0, 1) := by decide +kernel
theorem d13_1 : decode prog_2_method_12_code 1 = .ok (.getfield 7, 3) := by decide +kernel
theorem d13_4 : decode prog_2_method_12_code 4 = .ok (.iload_n 1, 1) := by decide +kernel
theorem d13_5 : decode prog_2_method_12_code 5 = .ok (.getstatic 96, 3) := by decide +kernel
theorem d13_8 : decode prog_2_method_12_code 8 = .ok (.lastore, 1) := by decide +kernel
theorem d13_9 : decode prog_2_method_12_code 9 = .ok (.iload_n 1, 1) := by decide +kernel
theorem d13_10 : decode prog_2_method_12_code 10 = .ok (.bipush 6, 2) := by decide +kernel
theorem d13_12 : decode prog_2_method_12_code 12 = .ok (.iushr, 1) := by decide +kernel
theorem d13_13 : decode prog_2_method_12_code 13 = .ok (.istore_n 2, 1) := by decide +kernel
theorem d13_14 : decode prog_2_method_12_code 14 = .ok (.aload_n 0, 1) := by decide +kernel
theorem d13_15 : decode prog_2_method_12_code 15 = .ok (.getfield 13, 3) := by decide +kernel
theorem d13_18 : decode prog_2_method_12_code 18 = .ok (.iload_n 2, 1) := by decide +kernel
theorem d13_19 : decode prog_2_method_12_code 19 = .ok (.dup2, 1) := by decide +kernel
theorem d13_20 : decode prog_2_method_12_code 20 = .ok (.laload, 1) := by decide +kernel
theorem d13_21 : decode prog_2_method_12_code 21 = .ok (.lconst 1, 1) := by decide +kernel
theorem d13_22 : decode prog_2_method_12_code 22 = .ok (.iload_n 1, 1) := by decide +kernel
theorem d13_23 : decode prog_2_method_12_code 23 = .ok (.lshl, 1) := by decide +kernel
theorem d13_24 : decode prog_2_method_12_code 24 = .ok (.ldc2_w 80, 3) := by decide +kernel
theorem d13_27 : decode prog_2_method_12_code 27 = .ok (.lxor, 1) := by decide +kernel
theorem d13_28 : decode prog_2_method_12_code 28 = .ok (.land, 1) := by decide +kernel
theorem d13_29 : decode prog_2_method_12_code 29 = .ok (.lastore, 1) := by decide +kernel
theorem d13_30 : decode prog_2_method_12_code 30 = .ok (.aload_n 0, 1) := by decide +kernel
theorem d13_31 : decode prog_2_method_12_code 31 = .ok (.getfield 16, 3) := by decide +kernel
theorem d13_34 : decode prog_2_method_12_code 34 = .ok (.iload_n 2, 1) := by decide +kernel
theorem d13_35 : decode prog_2_method_12_code 35 = .ok (.bipush 6, 2) := by decide +kernel
theorem d13_37 : decode prog_2_method_12_code 37 = .ok (.iushr, 1) := by decide +kernel
theorem d13_38 : decode prog_2_method_12_code 38 = .ok (.dup2, 1) := by decide +kernel
theorem d13_39 : decode prog_2_method_12_code 39 = .ok (.laload, 1) := by decide +kernel
theorem d13_40 : decode prog_2_method_12_code 40 = .ok (.lconst 1, 1) := by decide +kernel
theorem d13_41 : decode prog_2_method_12_code 41 = .ok (.iload_n 2, 1) := by decide +kernel
theorem d13_42 : decode prog_2_method_12_code 42 = .ok (.lshl, 1) := by decide +kernel
theorem d13_43 : decode prog_2_method_12_code 43 = .ok (.ldc2_w 80, 3) := by decide +kernel
theorem d13_46 : decode prog_2_method_12_code 46 = .ok (.lxor, 1) := by decide +kernel
theorem d13_47 : decode prog_2_method_12_code 47 = .ok (.land, 1) := by decide +kernel
theorem d13_48 : decode prog_2_method_12_code 48 = .ok (.lastore, 1) := by decide +kernel
theorem d13_49 : decode prog_2_method_12_code 49 = .ok (.aload_n 0, 1) := by decide +kernel
theorem d13_50 : decode prog_2_method_12_code 50 = .ok (.aload_n 0, 1) := by decide +kernel
theorem d13_51 : decode prog_2_method_12_code 51 = .ok (.getfield 73, 3) := by decide +kernel
theorem d13_54 : decode prog_2_method_12_code 54 = .ok (.iload_n 1, 1) := by decide +kernel
theorem d13_55 : decode prog_2_method_12_code 55 = .ok (.invokestatic 100, 3) := by decide +kernel
theorem d13_58 : decode prog_2_method_12_code 58 = .ok (.putfield 73, 3) := by decide +kernel
theorem d13_61 : decode prog_2_method_12_code 61 = .ok (.iconst 1, 1) := by decide +kernel
theorem d13_62 : decode prog_2_method_12_code 62 = .ok (.istore_n 3, 1) := by decide +kernel
theorem d13_63 : decode prog_2_method_12_code 63 = .ok (.iload_n 3, 1) := by decide +kernel
theorem d13_64 : decode prog_2_method_12_code 64 = .ok (.bipush 32, 2) := by decide +kernel
theorem d13_66 : decode prog_2_method_12_code 66 = .ok (.if_icmp .ge 25, 3) := by decide +kernel
theorem d13_69 : decode prog_2_method_12_code 69 = .ok (.aload_n 0, 1) := by decide +kernel
theorem d13_70 : decode prog_2_method_12_code 70 = .ok (.getfield 19, 3) := by decide +kernel
theorem d13_73 : decode prog_2_method_12_code 73 = .ok (.iload_n 3, 1) := by decide +kernel
theorem d13_74 : decode prog_2_method_12_code 74 = .ok (.aload_n 0, 1) := by decide +kernel
theorem d13_75 : decode prog_2_method_12_code 75 = .ok (.getfield 19, 3) := by decide +kernel
theorem d13_78 : decode prog_2_method_12_code 78 = .ok (.iload_n 3, 1) := by decide +kernel
theorem d13_79 : decode prog_2_method_12_code 79 = .ok (.iaload, 1) := by decide +kernel
theorem d13_80 : decode prog_2_method_12_code 80 = .ok (.iload_n 1, 1) := by decide +kernel
theorem d13_81 : decode prog_2_method_12_code 81 = .ok (.invokestatic 100, 3) := by decide +kernel
theorem d13_84 : decode prog_2_method_12_code 84 = .ok (.iastore, 1) := by decide +kernel
theorem d13_85 : decode prog_2_method_12_code 85 = .ok (.iinc 3 1, 3) := by decide +kernel
theorem d13_88 : decode prog_2_method_12_code 88 = .ok (.goto (-25), 3) := by decide +kernel
theorem d13_91 : decode prog_2_method_12_code 91 = .ok (.return_, 1) := by decide +kernel
theorem pn_13 : plainName "com/example/twinbase/twinbase/CellSpace" = true := by first | (simp [plainName, overriddenIn]; done) | decide +kernel
theorem d14_0 : decode prog_2_method_13_code 0 = .ok (.lload_n 1, 1) := by decide +kernel
theorem d14_1 : decode prog_2_method_13_code 1 = .ok (.bipush 6, 2) := by decide +kernel
theorem d14_3 : decode prog_2_method_13_code 3 = .ok (.lushr, 1) := by decide +kernel
theorem d14_4 : decode prog_2_method_13_code 4 = .ok (.l2i, 1) := by decide +kernel
theorem d14_5 : decode prog_2_method_13_code 5 = .ok (.istore_n 3, 1) := by decide +kernel
theorem d14_6 : decode prog_2_method_13_code 6 = .ok (.iload_n 3, 1) := by decide +kernel
theorem d14_7 : decode prog_2_method_13_code 7 = .ok (.aload_n 0, 1) := by decide +kernel
theorem d14_8 : decode prog_2_method_13_code 8 = .ok (.getfield 13, 3) := by decide +kernel
theorem d14_11 : decode prog_2_method_13_code 11 = .ok (.arraylength, 1) := by decide +kernel
theorem d14_12 : decode prog_2_method_13_code 12 = .ok (.if_icmp .lt 5, 3) := by decide +kernel
theorem d14_15 : decode prog_2_method_13_code 15 = .ok (.lload_n 1, 1) := by decide +kernel
theorem d14_16 : decode prog_2_method_13_code 16 = .ok (.lreturn, 1) := by decide +kernel
theorem d14_17 : decode prog_2_method_13_code 17 = .ok (.aload_n 0, 1) := by decide +kernel
theorem d14_18 : decode prog_2_method_13_code 18 = .ok (.getfield 13, 3) := by decide +kernel
theorem d14_21 : decode prog_2_method_13_code 21 = .ok (.iload_n 3, 1) := by decide +kernel
theorem d14_22 : decode prog_2_method_13_code 22 = .ok (.laload, 1) := by decide +kernel
theorem d14_23 : decode prog_2_method_13_code 23 = .ok (.ldc2_w 80, 3) := by decide +kernel
theorem d14_26 : decode prog_2_method_13_code 26 = .ok (.lxor, 1) := by decide +kernel
theorem d14_27 : decode prog_2_method_13_code 27 = .ok (.ldc2_w 80, 3) := by decide +kernel
theorem d14_30 : decode prog_2_method_13_code 30 = .ok (.lload_n 1, 1) := by decide +kernel
theorem d14_31 : decode prog_2_method_13_code 31 = .ok (.l2i, 1) := by decide +kernel
theorem d14_32 : decode prog_2_method_13_code 32 = .ok (.lshl, 1) := by decide +kernel
theorem d14_33 : decode prog_2_method_13_code 33 = .ok (.land, 1) := by decide +kernel
theorem d14_34 : decode prog_2_method_13_code 34 = .ok (.lstore 4, 2) := by decide +kernel
theorem d14_36 : decode prog_2_method_13_code 36 = .ok (.lload 4, 2) := by decide +kernel
theorem d14_38 : decode prog_2_method_13_code 38 = .ok (.lconst 0, 1) := by decide +kernel
theorem d14_39 : decode prog_2_method_13_code 39 = .ok (.lcmp, 1) := by decide +kernel
theorem d14_40 : decode prog_2_method_13_code 40 = .ok (.ifCond .eq 16, 3) := by decide +kernel
theorem d14_43 : decode prog_2_method_13_code 43 = .ok (.iload_n 3, 1) := by decide +kernel
theorem d14_44 : decode prog_2_method_13_code 44 = .ok (.i2l, 1) := by decide +kernel
theorem d14_45 : decode prog_2_method_13_code 45 = .ok (.bipush 6, 2) := by decide +kernel
theorem d14_47 : decode prog_2_method_13_code 47 = .ok (.lshl, 1) := by decide +kernel
theorem d14_48 : decode prog_2_method_13_code 48 = .ok (.lload 4, 2) := by decide +kernel
theorem d14_50 : decode prog_2_method_13_code 50 = .ok (.invokestatic 85, 3) := by decide +kernel
theorem d14_53 : decode prog_2_method_13_code 53 = .ok (.i2l, 1) := by decide +kernel
theorem d14_54 : decode prog_2_method_13_code 54 = .ok (.lor, 1) := by decide +kernel
theorem d14_55 : decode prog_2_method_13_code 55 = .ok (.lreturn, 1) := by decide +kernel
theorem d14_56 : decode prog_2_method_13_code 56 = .ok (.iload_n 3, 1) := by decide +kernel
theorem d14_57 : decode prog_2_method_13_code 57 = .ok (.iconst 1, 1) := by decide +kernel
theorem d14_58 : decode prog_2_method_13_code 58 = .ok (.iadd, 1) := by decide +kernel
theorem d14_59 : decode prog_2_method_13_code 59 = .ok (.istore 6, 2) := by decide +kernel
theorem d14_61 : decode prog_2_method_13_code 61 = .ok (.iload 6, 2) := by decide +kernel
theorem d14_63 : decode prog_2_method_13_code 63 = .ok (.bipush 6, 2) := by decide +kernel
theorem d14_65 : decode prog_2_method_13_code 65 = .ok (.iushr, 1) := by decide +kernel
theorem d14_66 : decode prog_2_method_13_code 66 = .ok (.istore 7, 2) := by decide +kernel
theorem d14_68 : decode prog_2_method_13_code 68 = .ok (.iload 7, 2) := by decide +kernel
theorem d14_70 : decode prog_2_method_13_code 70 = .ok (.aload_n 0, 1) := by decide +kernel
theorem d14_71 : decode prog_2_method_13_code 71 = .ok (.getfield 16, 3) := by decide +kernel
theorem d14_74 : decode prog_2_method_13_code 74 = .ok (.arraylength, 1) := by decide +kernel
theorem d14_75 : decode prog_2_method_13_code 75 = .ok (.if_icmp .ge 110, 3) := by decide +kernel
theorem d14_78 : decode prog_2_method_13_code 78 = .ok (.iload 7, 2) := by decide +kernel
theorem d14_80 : decode prog_2_method_13_code 80 = .ok (.iload 6, 2) := by decide +kernel
theorem d14_82 : decode prog_2_method_13_code 82 = .ok (.bipush 6, 2) := by decide +kernel
theorem d14_84 : decode prog_2_method_13_code 84 = .ok (.iushr, 1) := by decide +kernel
theorem d14_85 : decode prog_2_method_13_code 85 = .ok (.if_icmp .ne 24, 3) := by decide +kernel
theorem d14_88 : decode prog_2_method_13_code 88 = .ok (.aload_n 0, 1) := by decide +kernel
theorem d14_89 : decode prog_2_method_13_code 89 = .ok (.getfield 16, 3) := by decide +kernel
theorem d14_92 : decode prog_2_method_13_code 92 = .ok (.iload 7, 2) := by decide +kernel
theorem d14_94 : decode prog_2_method_13_code 94 = .ok (.laload, 1) := by decide +kernel
theorem d14_95 : decode prog_2_method_13_code 95 = .ok (.ldc2_w 80, 3) := by decide +kernel
theorem d14_98 : decode prog_2_method_13_code 98 = .ok (.lxor, 1) := by decide +kernel
theorem d14_99 : decode prog_2_method_13_code 99 = .ok (.ldc2_w 80, 3) := by decide +kernel
theorem d14_102 : decode prog_2_method_13_code 102 = .ok (.iload 6, 2) := by decide +kernel
theorem d14_104 : decode prog_2_method_13_code 104 = .ok (.lshl, 1) := by decide +kernel
theorem d14_105 : decode prog_2_method_13_code 105 = .ok (.land, 1) := by decide +kernel
theorem d14_106 : decode prog_2_method_13_code 106 = .ok (.goto 14, 3) := by decide +kernel
theorem d14_109 : decode prog_2_method_13_code 109 = .ok (.aload_n 0, 1) := by decide +kernel
theorem d14_110 : decode prog_2_method_13_code 110 = .ok (.getfield 16, 3) := by decide +kernel
theorem d14_113 : decode prog_2_method_13_code 113 = .ok (.iload 7, 2) := by decide +kernel
theorem d14_115 : decode prog_2_method_13_code 115 = .ok (.laload, 1) := by decide +kernel
theorem d14_116 : decode prog_2_method_13_code 116 = .ok (.ldc2_w 80, 3) := by decide +kernel
theorem d14_119 : decode prog_2_method_13_code 119 = .ok (.lxor, 1) := by decide +kernel
theorem d14_120 : decode prog_2_method_13_code 120 = .ok (.lstore 8, 2) := by decide +kernel
theorem d14_122 : decode prog_2_method_13_code 122 = .ok (.lload 8, 2) := by decide +kernel
theorem d14_124 : decode prog_2_method_13_code 124 = .ok (.lconst 0, 1) := by decide +kernel
theorem d14_125 : decode prog_2_method_13_code 125 = .ok (.lcmp, 1) := by decide +kernel
theorem d14_126 : decode prog_2_method_13_code 126 = .ok (.ifCond .eq 53, 3) := by decide +kernel
theorem d14_129 : decode prog_2_method_13_code 129 = .ok (.iload 7, 2) := by decide +kernel
theorem d14_131 : decode prog_2_method_13_code 131 = .ok (.bipush 6, 2) := by decide +kernel
theorem d14_133 : decode prog_2_method_13_code 133 = .ok (.ishl, 1) := by decide +kernel
theorem d14_134 : decode prog_2_method_13_code 134 = .ok (.lload 8, 2) := by decide +kernel
theorem d14_136 : decode prog_2_method_13_code 136 = .ok (.invokestatic 85, 3) := by decide +kernel
theorem d14_139 : decode prog_2_method_13_code 139 = .ok (.ior, 1) := by decide +kernel
theorem d14_140 : decode prog_2_method_13_code 140 = .ok (.istore_n 3, 1) := by decide +kernel
theorem d14_141 : decode prog_2_method_13_code 141 = .ok (.iload_n 3, 1) := by decide +kernel
theorem d14_142 : decode prog_2_method_13_code 142 = .ok (.aload_n 0, 1) := by decide +kernel
theorem d14_143 : decode prog_2_method_13_code 143 = .ok (.getfield 13, 3) := by decide +kernel
theorem d14_146 : decode prog_2_method_13_code 146 = .ok (.arraylength, 1) := by decide +kernel
theorem d14_147 : decode prog_2_method_13_code 147 = .ok (.if_icmp .ge 26, 3) := by decide +kernel
theorem d14_150 : decode prog_2_method_13_code 150 = .ok (.iload_n 3, 1) := by decide +kernel
theorem d14_151 : decode prog_2_method_13_code 151 = .ok (.i2l, 1) := by decide +kernel
theorem d14_152 : decode prog_2_method_13_code 152 = .ok (.bipush 6, 2) := by decide +kernel
theorem d14_154 : decode prog_2_method_13_code 154 = .ok (.lshl, 1) := by decide +kernel
theorem d14_155 : decode prog_2_method_13_code 155 = .ok (.aload_n 0, 1) := by decide +kernel
theorem d14_156 : decode prog_2_method_13_code 156 = .ok (.getfield 13, 3) := by decide +kernel
theorem d14_159 : decode prog_2_method_13_code 159 = .ok (.iload_n 3, 1) := by decide +kernel
theorem d14_160 : decode prog_2_method_13_code 160 = .ok (.laload, 1) := by decide +kernel
theorem d14_161 : decode prog_2_method_13_code 161 = .ok (.ldc2_w 80, 3) := by decide +kernel
theorem d14_164 : decode prog_2_method_13_code 164 = .ok (.lxor, 1) := by decide +kernel
theorem d14_165 : decode prog_2_method_13_code 165 = .ok (.invokestatic 85, 3) := by decide +kernel
theorem d14_168 : decode prog_2_method_13_code 168 = .ok (.i2l, 1) := by decide +kernel
theorem d14_169 : decode prog_2_method_13_code 169 = .ok (.lor, 1) := by decide +kernel
theorem d14_170 : decode prog_2_method_13_code 170 = .ok (.goto 8, 3) := by decide +kernel
theorem d14_173 : decode prog_2_method_13_code 173 = .ok (.iload_n 3, 1) := by decide +kernel
theorem d14_174 : decode prog_2_method_13_code 174 = .ok (.i2l, 1) := by decide +kernel
theorem d14_175 : decode prog_2_method_13_code 175 = .ok (.bipush 6, 2) := by decide +kernel
theorem d14_177 : decode prog_2_method_13_code 177 = .ok (.lshl, 1) := by decide +kernel
theorem d14_178 : decode prog_2_method_13_code 178 = .ok (.lreturn, 1) := by decide +kernel
theorem d14_179 : decode prog_2_method_13_code 179 = .ok (.iinc 7 1, 3) := by decide +kernel
theorem d14_182 : decode prog_2_method_13_code 182 = .ok (.goto (-114), 3) := by decide +kernel
theorem d14_185 : decode prog_2_method_13_code 185 = .ok (.aload_n 0, 1) := by decide +kernel
theorem d14_186 : decode prog_2_method_13_code 186 = .ok (.getfield 16, 3) := by decide +kernel
theorem d14_189 : decode prog_2_method_13_code 189 = .ok (.arraylength, 1) := by decide +kernel
theorem d14_190 : decode prog_2_method_13_code 190 = .ok (.i2l, 1) := by decide +kernel
theorem d14_191 : decode prog_2_method_13_code 191 = .ok (.bipush 12, 2) := by decide +kernel
theorem d14_193 : decode prog_2_method_13_code 193 = .ok (.lshl, 1) := by decide +kernel
theorem d14_194 : decode prog_2_method_13_code 194 = .ok (.lreturn, 1) := by decide +kernel
theorem pn_14 : plainName "com/example/twinbase/twinbase/CellSpace" = true := by first | (simp [plainName, overriddenIn]; done) | decide +kernel
theorem d15_0 : decode jdk_35_method_49_code 0 = .ok (.lload_n 0, 1) := by decide +kernel
theorem d15_1 : decode jdk_35_method_49_code 1 = .ok (.l2i, 1) := by decide +kernel
theorem d15_2 : decode jdk_35_method_49_code 2 = .ok (.istore_n 2, 1) := by decide +kernel
theorem d15_3 : decode jdk_35_method_49_code 3 = .ok (.iload_n 2, 1) := by decide +kernel
theorem d15_4 : decode jdk_35_method_49_code 4 = .ok (.ifCond .ne 17, 3) := by decide +kernel
theorem d15_7 : decode jdk_35_method_49_code 7 = .ok (.bipush 32, 2) := by decide +kernel
theorem d15_9 : decode jdk_35_method_49_code 9 = .ok (.lload_n 0, 1) := by decide +kernel
theorem d15_10 : decode jdk_35_method_49_code 10 = .ok (.bipush 32, 2) := by decide +kernel
theorem d15_12 : decode jdk_35_method_49_code 12 = .ok (.lushr, 1) := by decide +kernel
theorem d15_13 : decode jdk_35_method_49_code 13 = .ok (.l2i, 1) := by decide +kernel
theorem d15_14 : decode jdk_35_method_49_code 14 = .ok (.invokestatic 311, 3) := by decide +kernel
theorem d15_17 : decode jdk_35_method_49_code 17 = .ok (.iadd, 1) := by decide +kernel
theorem d15_18 : decode jdk_35_method_49_code 18 = .ok (.goto 7, 3) := by decide +kernel
theorem d15_21 : decode jdk_35_method_49_code 21 = .ok (.iload_n 2, 1) := by decide +kernel
theorem d15_22 : decode jdk_35_method_49_code 22 = .ok (.invokestatic 311, 3) := by decide +kernel
theorem d15_25 : decode jdk_35_method_49_code 25 = .ok (.ireturn, 1) := by decide +kernel
theorem pn_15 : plainName "java/lang/Long" = true := by first | (simp [plainName, overriddenIn]; done) | decide +kernel
theorem d16_0 : decode jdk_33_method_48_code 0 = .ok (.iload_n 0, 1) := by decide +kernel
theorem d16_1 : decode jdk_33_method_48_code 1 = .ok (.iconst (-1), 1) := by decide +kernel
theorem d16_2 : decode jdk_33_method_48_code 2 = .ok (.ixor, 1) := by decide +kernel
theorem d16_3 : decode jdk_33_method_48_code 3 = .ok (.iload_n 0, 1) := by decide +kernel
theorem d16_4 : decode jdk_33_method_48_code 4 = .ok (.iconst 1, 1) := by decide +kernel
theorem d16_5 : decode jdk_33_method_48_code 5 = .ok (.isub, 1) := by decide +kernel
theorem d16_6 : decode jdk_33_method_48_code 6 = .ok (.iand, 1) := by decide +kernel
theorem d16_7 : decode jdk_33_method_48_code 7 = .ok (.istore_n 0, 1) := by decide +kernel
theorem d16_8 : decode jdk_33_method_48_code 8 = .ok (.iload_n 0, 1) := by decide +kernel
theorem d16_9 : decode jdk_33_method_48_code 9 = .ok (.ifCond .gt 8, 3) := by decide +kernel
theorem d16_12 : decode jdk_33_method_48_code 12 = .ok (.iload_n 0, 1) := by decide +kernel
theorem d16_13 : decode jdk_33_method_48_code 13 = .ok (.bipush 32, 2) := by decide +kernel
theorem d16_15 : decode jdk_33_method_48_code 15 = .ok (.iand, 1) := by decide +kernel
theorem d16_16 : decode jdk_33_method_48_code 16 = .ok (.ireturn, 1) := by decide +kernel
theorem d16_17 : decode jdk_33_method_48_code 17 = .ok (.iconst 1, 1) := by decide +kernel
theorem d16_18 : decode jdk_33_method_48_code 18 = .ok (.istore_n 1, 1) := by decide +kernel
theorem d16_19 : decode jdk_33_method_48_code 19 = .ok (.iload_n 0, 1) := by decide +kernel
theorem d16_20 : decode jdk_33_method_48_code 20 = .ok (.ldc_w 264, 3) := by decide +kernel
theorem d16_23 : decode jdk_33_method_48_code 23 = .ok (.if_icmp .le 11, 3) := by decide +kernel
theorem d16_26 : decode jdk_33_method_48_code 26 = .ok (.iinc 1 16, 3) := by decide +kernel
theorem d16_29 : decode jdk_33_method_48_code 29 = .ok (.iload_n 0, 1) := by decide +kernel
theorem d16_30 : decode jdk_33_method_48_code 30 = .ok (.bipush 16, 2) := by decide +kernel
theorem d16_32 : decode jdk_33_method_48_code 32 = .ok (.iushr, 1) := by decide +kernel
theorem d16_33 : decode jdk_33_method_48_code 33 = .ok (.istore_n 0, 1) := by decide +kernel
theorem d16_34 : decode jdk_33_method_48_code 34 = .ok (.iload_n 0, 1) := by decide +kernel
theorem d16_35 : decode jdk_33_method_48_code 35 = .ok (.sipush 256, 3) := by decide +kernel
theorem d16_38 : decode jdk_33_method_48_code 38 = .ok (.if_icmp .le 11, 3) := by decide +kernel
theorem d16_41 : decode jdk_33_method_48_code 41 = .ok (.iinc 1 8, 3) := by decide +kernel
theorem d16_44 : decode jdk_33_method_48_code 44 = .ok (.iload_n 0, 1) := by decide +kernel
theorem d16_45 : decode jdk_33_method_48_code 45 = .ok (.bipush 8, 2) := by decide +kernel
theorem d16_47 : decode jdk_33_method_48_code 47 = .ok (.iushr, 1) := by decide +kernel
theorem d16_48 : decode jdk_33_method_48_code 48 = .ok (.istore_n 0, 1) := by decide +kernel
theorem d16_49 : decode jdk_33_method_48_code 49 = .ok (.iload_n 0, 1) := by decide +kernel
theorem d16_50 : decode jdk_33_method_48_code 50 = .ok (.bipush 16, 2) := by decide +kernel
theorem d16_52 : decode jdk_33_method_48_code 52 = .ok (.if_icmp .le 10, 3) := by decide +kernel
theorem d16_55 : decode jdk_33_method_48_code 55 = .ok (.iinc 1 4, 3) := by decide +kernel
theorem d16_58 : decode jdk_33_method_48_code 58 = .ok (.iload_n 0, 1) := by decide +kernel
theorem d16_59 : decode jdk_33_method_48_code 59 = .ok (.iconst 4, 1) := by decide +kernel
theorem d16_60 : decode jdk_33_method_48_code 60 = .ok (.iushr, 1) := by decide +kernel
theorem d16_61 : decode jdk_33_method_48_code 61 = .ok (.istore_n 0, 1) := by decide +kernel
theorem d16_62 : decode jdk_33_method_48_code 62 = .ok (.iload_n 0, 1) := by decide +kernel
theorem d16_63 : decode jdk_33_method_48_code 63 = .ok (.iconst 4, 1) := by decide +kernel
theorem d16_64 : decode jdk_33_method_48_code 64 = .ok (.if_icmp .le 10, 3) := by decide +kernel
theorem d16_67 : decode jdk_33_method_48_code 67 = .ok (.iinc 1 2, 3) := by decide +kernel
theorem d16_70 : decode jdk_33_method_48_code 70 = .ok (.iload_n 0, 1) := by decide +kernel
theorem d16_71 : decode jdk_33_method_48_code 71 = .ok (.iconst 2, 1) := by decide +kernel
theorem d16_72 : decode jdk_33_method_48_code 72 = .ok (.iushr, 1) := by decide +kernel
theorem d16_73 : decode jdk_33_method_48_code 73 = .ok (.istore_n 0, 1) := by decide +kernel
theorem d16_74 : decode jdk_33_method_48_code 74 = .ok (.iload_n 1, 1) := by decide +kernel
theorem d16_75 : decode jdk_33_method_48_code 75 = .ok (.iload_n 0, 1) := by decide +kernel
theorem d16_76 : decode jdk_33_method_48_code 76 = .ok (.iconst 1, 1) := by decide +kernel
theorem d16_77 : decode jdk_33_method_48_code 77 = .ok (.iushr, 1) := by decide +kernel
theorem d16_78 : decode jdk_33_method_48_code 78 = .ok (.iadd, 1) := by decide +kernel
theorem d16_79 : decode jdk_33_method_48_code 79 = .ok (.ireturn, 1) := by decide +kernel
theorem pn_16 : plainName "java/lang/Integer" = true := by first | (simp [plainName, overriddenIn]; done) | decide +kernel
theorem pn_0 : plainName "com/example/twinbase/twinbase/CellSpaceIsFreePinLaw" = true := by first | (simp [plainName, overriddenIn]; done) | decide +kernel
theorem ef_rm4 (m : MethodId) (x0 : Int64) (x1 : Int64) : entryFrame m #[(.long x0), (.long x1)] 4 = mkF m 0 #[.val (.long x0), .second, .val (.long x1), .second] [] := by first | (simp [entryFrame, mkF, argsToLocals, Value.category]; done) | rfl
def Q4 (Z : State) (q1 : Int64) (q2 : Int64) (h0 : Heap) (n0 : Nat) (v : Option Value) (h : Heap) (L : List Loc) : Prop := v = some (.long (own_maxL q1 q2)) ∧ Fr n0 L ∧ h = h0
set_option maxRecDepth 65536 in
set_option maxHeartbeats 40000000 in
theorem rm4 (l : Launch) (Z : State) (a0 : Array Value) (hw : ∀ d ∈ tables_1, d.before a0 Z = true) (ws : List Jvm.Cond) (q1 : Int64) (q2 : Int64) (h0 : Heap) (n0 : Nat) (Z0 : n0 ≤ h0.size) :
    MetFree l (⟨"java/lang/Math", "max", "(JJ)J"⟩ : MethodName) (head1 (Jvm.Cond.code (⟨"java/lang/Math", "max", "(JJ)J"⟩ : MethodName) jdk_29_method_66_code 4 (some .long) :: ws) ({ frames := 0, cells := 0, slots := 0, locals := 0 } : Room)) (fun a U => a = #[(.long q1), (.long q2)] ∧ Z.Warmed39 U.vm ∧ U.heap = h0) (fun _ _ _ _ _ => True) (fun _ U o U' => ∃ v L, o = .returned v ∧ Q4 Z q1 q2 h0 n0 v U'.heap L ∧ FrameEnd U o U' L ({ frames := 0, cells := 0, slots := 0, locals := 0 } : Room).cells ({ frames := 0, cells := 0, slots := 0, locals := 0 } : Room).slots) := by
  refine MetFree.of_bodySF (Jvm.Free.JP.mathPlain rfl (by decide +kernel)) hisR ?_
  intro p e s m args below meth c s₁ Bd hml0 hP hK
  obtain ⟨rfl, hZ, hh⟩ := hP
  have hx := Bd.exec
  have hby := Bd.bytes
  have hml : c.maxLocals = 4 := hml0
  have hown : s.vm.findClass "java/lang/Math" = some m.cls := findClass_of_methodNamed Bd.named
  have hnm := (name_of_methodNamed Bd.named Bd.method).1
  have X0 : Stand p l e ({ frames := 0, cells := 0, slots := 0, locals := 0 } : Room) s m #[(.long q1), (.long q2)] below meth c s₁ [] 0 0 := Stand.of_body Bd
  have e0 : s₁.heap = h0 := by rw [← hh, Bd.state]; rfl
  have N0 := Fr.nil n0
  have a0s : ∀ t, Steps p.tables e below (s₁.setTop (mkF m 0 #[.val (.long q1), .second, .val (.long q2), .second] [])) t → Steps p.tables e below (s₁.setTop (entryFrame m #[(.long q1), (.long q2)] 4)) t := fun t k => castTop (ef_rm4 m q1 q2) k
  have ac1 : ∀ t, Steps p.tables e below (s₁.setTop (mkF m 3 #[.val (.long q1), .second, .val (.long q2), .second] [(.int (lcmpW q1 q2))])) t → Steps p.tables e below (s₁.setTop (entryFrame m #[(.long q1), (.long q2)] 4)) t := fun t k => a0s t (by
      show Steps p.tables e below (s₁.setTop (mkF m 0 #[.val (.long q1), .second, .val (.long q2), .second] [])) _
      refine XS.lloadN X0.here hx rfl (hb hby d4_0) rfl ?_
      show Steps p.tables e below (s₁.setTop (mkF m 1 #[.val (.long q1), .second, .val (.long q2), .second] [(.long q1)])) _
      refine XS.lloadN X0.here hx rfl (hb hby d4_1) rfl ?_
      show Steps p.tables e below (s₁.setTop (mkF m 2 #[.val (.long q1), .second, .val (.long q2), .second] [(.long q2), (.long q1)])) _
      refine XS.lcmp X0.here hx rfl (hb hby d4_2) rfl ?_
      exact k)
  by_cases hm : q1 < q2
  ·
    have ac2 : ∀ t, Steps p.tables e below (s₁.setTop (mkF m 11 #[.val (.long q1), .second, .val (.long q2), .second] [(.long q2)])) t → Steps p.tables e below (s₁.setTop (entryFrame m #[(.long q1), (.long q2)] 4)) t := fun t k => ac1 t (by
        show Steps p.tables e below (s₁.setTop (mkF m 3 #[.val (.long q1), .second, .val (.long q2), .second] [(.int (lcmpW q1 q2))])) _
        refine XS.ifYes X0.here hx rfl (pc0 := 3) (pc' := 10) rfl (hb hby d4_3) rfl ((if0 _ _).trans (tlt ((lw_lt _ _).mpr hm)).1) (by decide) (by decide) ?_
        show Steps p.tables e below (s₁.setTop (mkF m 10 #[.val (.long q1), .second, .val (.long q2), .second] [])) _
        refine XS.lloadN X0.here hx rfl (hb hby d4_10) rfl ?_
        exact k)
    obtain ⟨fs, hr, hrun, hended, hW, hsame⟩ := X0.leave (v := some (.long q2)) (fun h => by rw [Bd.returns] at h; cases h) (BodyLoose.notSynchronized Bd)
    refine ⟨_, _, ac2 _ ?_, hrun, hended, _, _, rfl, ?_, ⟨_, rfl⟩, hW, hsame.mono (by decide) (by decide)⟩
    · show Steps p.tables e below (s₁.setTop (mkF m 11 #[.val (.long q1), .second, .val (.long q2), .second] [(.long q2)])) _
      exact retOut X0 hx Bd.returns rfl (Or.inr (Or.inl ⟨rfl, rfl, _, rfl⟩)) (hb hby d4_11) hr
    · show Q4 Z q1 q2 h0 n0 _ s₁.heap _
      rw [e0]
      exact ⟨(congrArg (fun z => some (Value.long z)) (own_maxL_t hm)).symm, N0, rfl⟩
  ·
    have ac3 : ∀ t, Steps p.tables e below (s₁.setTop (mkF m 11 #[.val (.long q1), .second, .val (.long q2), .second] [(.long q1)])) t → Steps p.tables e below (s₁.setTop (entryFrame m #[(.long q1), (.long q2)] 4)) t := fun t k => ac1 t (by
        show Steps p.tables e below (s₁.setTop (mkF m 3 #[.val (.long q1), .second, .val (.long q2), .second] [(.int (lcmpW q1 q2))])) _
        refine XS.ifNo X0.here hx rfl (hb hby d4_3) rfl ((if0 _ _).trans (flt (mt (lw_lt _ _).mp hm)).1) ?_
        show Steps p.tables e below (s₁.setTop (mkF m 6 #[.val (.long q1), .second, .val (.long q2), .second] [])) _
        refine XS.lloadN X0.here hx rfl (hb hby d4_6) rfl ?_
        show Steps p.tables e below (s₁.setTop (mkF m 7 #[.val (.long q1), .second, .val (.long q2), .second] [(.long q1)])) _
        refine XS.goto X0.here hx rfl (pc0 := 7) (pc' := 11) rfl (hb hby d4_7) (by decide) (by decide) ?_
        exact k)
    obtain ⟨fs, hr, hrun, hended, hW, hsame⟩ := X0.leave (v := some (.long q1)) (fun h => by rw [Bd.returns] at h; cases h) (BodyLoose.notSynchronized Bd)
    refine ⟨_, _, ac3 _ ?_, hrun, hended, _, _, rfl, ?_, ⟨_, rfl⟩, hW, hsame.mono (by decide) (by decide)⟩
    · show Steps p.tables e below (s₁.setTop (mkF m 11 #[.val (.long q1), .second, .val (.long q2), .second] [(.long q1)])) _
      exact retOut X0 hx Bd.returns rfl (Or.inr (Or.inl ⟨rfl, rfl, _, rfl⟩)) (hb hby d4_11) hr
    · show Q4 Z q1 q2 h0 n0 _ s₁.heap _
      rw [e0]
      exact ⟨(congrArg (fun z => some (Value.long z)) (own_maxL_f hm)).symm, N0, rfl⟩
theorem ef_rm5 (m : MethodId) (x0 : Int64) (x1 : Int64) : entryFrame m #[(.long x0), (.long x1)] 4 = mkF m 0 #[.val (.long x0), .second, .val (.long x1), .second] [] := by first | (simp [entryFrame, mkF, argsToLocals, Value.category]; done) | rfl
def Q5 (Z : State) (q1 : Int64) (q2 : Int64) (h0 : Heap) (n0 : Nat) (v : Option Value) (h : Heap) (L : List Loc) : Prop := v = some (.long (own_minL q1 q2)) ∧ Fr n0 L ∧ h = h0
set_option maxRecDepth 65536 in
set_option maxHeartbeats 40000000 in
theorem rm5 (l : Launch) (Z : State) (a0 : Array Value) (hw : ∀ d ∈ tables_1, d.before a0 Z = true) (ws : List Jvm.Cond) (q1 : Int64) (q2 : Int64) (h0 : Heap) (n0 : Nat) (Z0 : n0 ≤ h0.size) :
    MetFree l (⟨"java/lang/Math", "min", "(JJ)J"⟩ : MethodName) (head1 (Jvm.Cond.code (⟨"java/lang/Math", "min", "(JJ)J"⟩ : MethodName) jdk_29_method_70_code 4 (some .long) :: ws) ({ frames := 0, cells := 0, slots := 0, locals := 0 } : Room)) (fun a U => a = #[(.long q1), (.long q2)] ∧ Z.Warmed39 U.vm ∧ U.heap = h0) (fun _ _ _ _ _ => True) (fun _ U o U' => ∃ v L, o = .returned v ∧ Q5 Z q1 q2 h0 n0 v U'.heap L ∧ FrameEnd U o U' L ({ frames := 0, cells := 0, slots := 0, locals := 0 } : Room).cells ({ frames := 0, cells := 0, slots := 0, locals := 0 } : Room).slots) := by
  refine MetFree.of_bodySF (Jvm.Free.JP.mathPlain rfl (by decide +kernel)) hisR ?_
  intro p e s m args below meth c s₁ Bd hml0 hP hK
  obtain ⟨rfl, hZ, hh⟩ := hP
  have hx := Bd.exec
  have hby := Bd.bytes
  have hml : c.maxLocals = 4 := hml0
  have hown : s.vm.findClass "java/lang/Math" = some m.cls := findClass_of_methodNamed Bd.named
  have hnm := (name_of_methodNamed Bd.named Bd.method).1
  have X0 : Stand p l e ({ frames := 0, cells := 0, slots := 0, locals := 0 } : Room) s m #[(.long q1), (.long q2)] below meth c s₁ [] 0 0 := Stand.of_body Bd
  have e0 : s₁.heap = h0 := by rw [← hh, Bd.state]; rfl
  have N0 := Fr.nil n0
  have a0s : ∀ t, Steps p.tables e below (s₁.setTop (mkF m 0 #[.val (.long q1), .second, .val (.long q2), .second] [])) t → Steps p.tables e below (s₁.setTop (entryFrame m #[(.long q1), (.long q2)] 4)) t := fun t k => castTop (ef_rm5 m q1 q2) k
  have ac1 : ∀ t, Steps p.tables e below (s₁.setTop (mkF m 3 #[.val (.long q1), .second, .val (.long q2), .second] [(.int (lcmpW q1 q2))])) t → Steps p.tables e below (s₁.setTop (entryFrame m #[(.long q1), (.long q2)] 4)) t := fun t k => a0s t (by
      show Steps p.tables e below (s₁.setTop (mkF m 0 #[.val (.long q1), .second, .val (.long q2), .second] [])) _
      refine XS.lloadN X0.here hx rfl (hb hby d5_0) rfl ?_
      show Steps p.tables e below (s₁.setTop (mkF m 1 #[.val (.long q1), .second, .val (.long q2), .second] [(.long q1)])) _
      refine XS.lloadN X0.here hx rfl (hb hby d5_1) rfl ?_
      show Steps p.tables e below (s₁.setTop (mkF m 2 #[.val (.long q1), .second, .val (.long q2), .second] [(.long q2), (.long q1)])) _
      refine XS.lcmp X0.here hx rfl (hb hby d5_2) rfl ?_
      exact k)
  by_cases hm : q2 < q1
  ·
    have ac2 : ∀ t, Steps p.tables e below (s₁.setTop (mkF m 11 #[.val (.long q1), .second, .val (.long q2), .second] [(.long q2)])) t → Steps p.tables e below (s₁.setTop (entryFrame m #[(.long q1), (.long q2)] 4)) t := fun t k => ac1 t (by
        show Steps p.tables e below (s₁.setTop (mkF m 3 #[.val (.long q1), .second, .val (.long q2), .second] [(.int (lcmpW q1 q2))])) _
        refine XS.ifYes X0.here hx rfl (pc0 := 3) (pc' := 10) rfl (hb hby d5_3) rfl ((if0 _ _).trans (tlt ((lw_gt _ _).mpr hm)).2.2.1) (by decide) (by decide) ?_
        show Steps p.tables e below (s₁.setTop (mkF m 10 #[.val (.long q1), .second, .val (.long q2), .second] [])) _
        refine XS.lloadN X0.here hx rfl (hb hby d5_10) rfl ?_
        exact k)
    obtain ⟨fs, hr, hrun, hended, hW, hsame⟩ := X0.leave (v := some (.long q2)) (fun h => by rw [Bd.returns] at h; cases h) (BodyLoose.notSynchronized Bd)
    refine ⟨_, _, ac2 _ ?_, hrun, hended, _, _, rfl, ?_, ⟨_, rfl⟩, hW, hsame.mono (by decide) (by decide)⟩
    · show Steps p.tables e below (s₁.setTop (mkF m 11 #[.val (.long q1), .second, .val (.long q2), .second] [(.long q2)])) _
      exact retOut X0 hx Bd.returns rfl (Or.inr (Or.inl ⟨rfl, rfl, _, rfl⟩)) (hb hby d5_11) hr
    · show Q5 Z q1 q2 h0 n0 _ s₁.heap _
      rw [e0]
      exact ⟨(congrArg (fun z => some (Value.long z)) (own_minL_t hm)).symm, N0, rfl⟩
  ·
    have ac3 : ∀ t, Steps p.tables e below (s₁.setTop (mkF m 11 #[.val (.long q1), .second, .val (.long q2), .second] [(.long q1)])) t → Steps p.tables e below (s₁.setTop (entryFrame m #[(.long q1), (.long q2)] 4)) t := fun t k => ac1 t (by
        show Steps p.tables e below (s₁.setTop (mkF m 3 #[.val (.long q1), .second, .val (.long q2), .second] [(.int (lcmpW q1 q2))])) _
        refine XS.ifNo X0.here hx rfl (hb hby d5_3) rfl ((if0 _ _).trans (flt (mt (lw_gt _ _).mp hm)).2.2.1) ?_
        show Steps p.tables e below (s₁.setTop (mkF m 6 #[.val (.long q1), .second, .val (.long q2), .second] [])) _
        refine XS.lloadN X0.here hx rfl (hb hby d5_6) rfl ?_
        show Steps p.tables e below (s₁.setTop (mkF m 7 #[.val (.long q1), .second, .val (.long q2), .second] [(.long q1)])) _
        refine XS.goto X0.here hx rfl (pc0 := 7) (pc' := 11) rfl (hb hby d5_7) (by decide) (by decide) ?_
        exact k)
    obtain ⟨fs, hr, hrun, hended, hW, hsame⟩ := X0.leave (v := some (.long q1)) (fun h => by rw [Bd.returns] at h; cases h) (BodyLoose.notSynchronized Bd)
    refine ⟨_, _, ac3 _ ?_, hrun, hended, _, _, rfl, ?_, ⟨_, rfl⟩, hW, hsame.mono (by decide) (by decide)⟩
    · show Steps p.tables e below (s₁.setTop (mkF m 11 #[.val (.long q1), .second, .val (.long q2), .second] [(.long q1)])) _
      exact retOut X0 hx Bd.returns rfl (Or.inr (Or.inl ⟨rfl, rfl, _, rfl⟩)) (hb hby d5_11) hr
    · show Q5 Z q1 q2 h0 n0 _ s₁.heap _
      rw [e0]
      exact ⟨(congrArg (fun z => some (Value.long z)) (own_minL_f hm)).symm, N0, rfl⟩
theorem ef_rm10 (m : MethodId) (x0 : Int32) (x1 : Int32) : entryFrame m #[(.int x0), (.int x1)] 2 = mkF m 0 #[.val (.int x0), .val (.int x1)] [] := by first | (simp [entryFrame, mkF, argsToLocals, Value.category]; done) | rfl
def Q10 (Z : State) (p1 : Int32) (p2 : Int32) (h0 : Heap) (n0 : Nat) (v : Option Value) (h : Heap) (L : List Loc) : Prop := v = some (.int (own_min p1 p2)) ∧ Fr n0 L ∧ h = h0
set_option maxRecDepth 65536 in
set_option maxHeartbeats 40000000 in
theorem rm10 (l : Launch) (Z : State) (a0 : Array Value) (hw : ∀ d ∈ tables_1, d.before a0 Z = true) (ws : List Jvm.Cond) (p1 : Int32) (p2 : Int32) (h0 : Heap) (n0 : Nat) (Z0 : n0 ≤ h0.size) :
    MetFree l (⟨"java/lang/Math", "min", "(II)I"⟩ : MethodName) (head1 (Jvm.Cond.code (⟨"java/lang/Math", "min", "(II)I"⟩ : MethodName) jdk_29_method_69_code 2 (some .int) :: ws) ({ frames := 0, cells := 0, slots := 0, locals := 0 } : Room)) (fun a U => a = #[(.int p1), (.int p2)] ∧ Z.Warmed39 U.vm ∧ U.heap = h0) (fun _ _ _ _ _ => True) (fun _ U o U' => ∃ v L, o = .returned v ∧ Q10 Z p1 p2 h0 n0 v U'.heap L ∧ FrameEnd U o U' L ({ frames := 0, cells := 0, slots := 0, locals := 0 } : Room).cells ({ frames := 0, cells := 0, slots := 0, locals := 0 } : Room).slots) := by
  refine MetFree.of_bodySF (Jvm.Free.JP.mathPlain rfl (by decide +kernel)) hisR ?_
  intro p e s m args below meth c s₁ Bd hml0 hP hK
  obtain ⟨rfl, hZ, hh⟩ := hP
  have hx := Bd.exec
  have hby := Bd.bytes
  have hml : c.maxLocals = 2 := hml0
  have hown : s.vm.findClass "java/lang/Math" = some m.cls := findClass_of_methodNamed Bd.named
  have hnm := (name_of_methodNamed Bd.named Bd.method).1
  have X0 : Stand p l e ({ frames := 0, cells := 0, slots := 0, locals := 0 } : Room) s m #[(.int p1), (.int p2)] below meth c s₁ [] 0 0 := Stand.of_body Bd
  have e0 : s₁.heap = h0 := by rw [← hh, Bd.state]; rfl
  have N0 := Fr.nil n0
  have a0s : ∀ t, Steps p.tables e below (s₁.setTop (mkF m 0 #[.val (.int p1), .val (.int p2)] [])) t → Steps p.tables e below (s₁.setTop (entryFrame m #[(.int p1), (.int p2)] 2)) t := fun t k => castTop (ef_rm10 m p1 p2) k
  have ac1 : ∀ t, Steps p.tables e below (s₁.setTop (mkF m 2 #[.val (.int p1), .val (.int p2)] [(.int p2), (.int p1)])) t → Steps p.tables e below (s₁.setTop (entryFrame m #[(.int p1), (.int p2)] 2)) t := fun t k => a0s t (by
      show Steps p.tables e below (s₁.setTop (mkF m 0 #[.val (.int p1), .val (.int p2)] [])) _
      refine XS.iloadN X0.here hx rfl (hb hby d10_0) rfl ?_
      show Steps p.tables e below (s₁.setTop (mkF m 1 #[.val (.int p1), .val (.int p2)] [(.int p1)])) _
      refine XS.iloadN X0.here hx rfl (hb hby d10_1) rfl ?_
      exact k)
  by_cases hm : p2 < p1
  ·
    have ac2 : ∀ t, Steps p.tables e below (s₁.setTop (mkF m 10 #[.val (.int p1), .val (.int p2)] [(.int p2)])) t → Steps p.tables e below (s₁.setTop (entryFrame m #[(.int p1), (.int p2)] 2)) t := fun t k => ac1 t (by
        show Steps p.tables e below (s₁.setTop (mkF m 2 #[.val (.int p1), .val (.int p2)] [(.int p2), (.int p1)])) _
        refine XS.icmpYes X0.here hx rfl (pc0 := 2) (pc' := 9) rfl (hb hby d10_2) rfl (tlt hm).2.2.1 (by decide) (by decide) ?_
        show Steps p.tables e below (s₁.setTop (mkF m 9 #[.val (.int p1), .val (.int p2)] [])) _
        refine XS.iloadN X0.here hx rfl (hb hby d10_9) rfl ?_
        exact k)
    obtain ⟨fs, hr, hrun, hended, hW, hsame⟩ := X0.leave (v := some (.int p2)) (fun h => by rw [Bd.returns] at h; cases h) (BodyLoose.notSynchronized Bd)
    refine ⟨_, _, ac2 _ ?_, hrun, hended, _, _, rfl, ?_, ⟨_, rfl⟩, hW, hsame.mono (by decide) (by decide)⟩
    · show Steps p.tables e below (s₁.setTop (mkF m 10 #[.val (.int p1), .val (.int p2)] [(.int p2)])) _
      exact retI X0 hx Bd.returns (hb hby d10_10) hr
    · show Q10 Z p1 p2 h0 n0 _ s₁.heap _
      rw [e0]
      exact ⟨(congrArg (fun z => some (Value.int z)) (own_min_t hm)).symm, N0, rfl⟩
  ·
    have ac3 : ∀ t, Steps p.tables e below (s₁.setTop (mkF m 10 #[.val (.int p1), .val (.int p2)] [(.int p1)])) t → Steps p.tables e below (s₁.setTop (entryFrame m #[(.int p1), (.int p2)] 2)) t := fun t k => ac1 t (by
        show Steps p.tables e below (s₁.setTop (mkF m 2 #[.val (.int p1), .val (.int p2)] [(.int p2), (.int p1)])) _
        refine XS.icmpNo X0.here hx rfl (hb hby d10_2) rfl (flt hm).2.2.1 ?_
        show Steps p.tables e below (s₁.setTop (mkF m 5 #[.val (.int p1), .val (.int p2)] [])) _
        refine XS.iloadN X0.here hx rfl (hb hby d10_5) rfl ?_
        show Steps p.tables e below (s₁.setTop (mkF m 6 #[.val (.int p1), .val (.int p2)] [(.int p1)])) _
        refine XS.goto X0.here hx rfl (pc0 := 6) (pc' := 10) rfl (hb hby d10_6) (by decide) (by decide) ?_
        exact k)
    obtain ⟨fs, hr, hrun, hended, hW, hsame⟩ := X0.leave (v := some (.int p1)) (fun h => by rw [Bd.returns] at h; cases h) (BodyLoose.notSynchronized Bd)
    refine ⟨_, _, ac3 _ ?_, hrun, hended, _, _, rfl, ?_, ⟨_, rfl⟩, hW, hsame.mono (by decide) (by decide)⟩
    · show Steps p.tables e below (s₁.setTop (mkF m 10 #[.val (.int p1), .val (.int p2)] [(.int p1)])) _
      exact retI X0 hx Bd.returns (hb hby d10_10) hr
    · show Q10 Z p1 p2 h0 n0 _ s₁.heap _
      rw [e0]
      exact ⟨(congrArg (fun z => some (Value.int z)) (own_min_f hm)).symm, N0, rfl⟩
theorem ef_rm11 (m : MethodId) (x0 : Int32) (x1 : Int32) : entryFrame m #[(.int x0), (.int x1)] 2 = mkF m 0 #[.val (.int x0), .val (.int x1)] [] := by first | (simp [entryFrame, mkF, argsToLocals, Value.category]; done) | rfl
def Q11 (Z : State) (p1 : Int32) (p2 : Int32) (h0 : Heap) (n0 : Nat) (v : Option Value) (h : Heap) (L : List Loc) : Prop := v = some (.int (own_max p1 p2)) ∧ Fr n0 L ∧ h = h0
set_option maxRecDepth 65536 in
set_option maxHeartbeats 40000000 in
theorem rm11 (l : Launch) (Z : State) (a0 : Array Value) (hw : ∀ d ∈ tables_1, d.before a0 Z = true) (ws : List Jvm.Cond) (p1 : Int32) (p2 : Int32) (h0 : Heap) (n0 : Nat) (Z0 : n0 ≤ h0.size) :
    MetFree l (⟨"java/lang/Math", "max", "(II)I"⟩ : MethodName) (head1 (Jvm.Cond.code (⟨"java/lang/Math", "max", "(II)I"⟩ : MethodName) jdk_29_method_65_code 2 (some .int) :: ws) ({ frames := 0, cells := 0, slots := 0, locals := 0 } : Room)) (fun a U => a = #[(.int p1), (.int p2)] ∧ Z.Warmed39 U.vm ∧ U.heap = h0) (fun _ _ _ _ _ => True) (fun _ U o U' => ∃ v L, o = .returned v ∧ Q11 Z p1 p2 h0 n0 v U'.heap L ∧ FrameEnd U o U' L ({ frames := 0, cells := 0, slots := 0, locals := 0 } : Room).cells ({ frames := 0, cells := 0, slots := 0, locals := 0 } : Room).slots) := by
  refine MetFree.of_bodySF (Jvm.Free.JP.mathPlain rfl (by decide +kernel)) hisR ?_
  intro p e s m args below meth c s₁ Bd hml0 hP hK
  obtain ⟨rfl, hZ, hh⟩ := hP
  have hx := Bd.exec
  have hby := Bd.bytes
  have hml : c.maxLocals = 2 := hml0
  have hown : s.vm.findClass "java/lang/Math" = some m.cls := findClass_of_methodNamed Bd.named
  have hnm := (name_of_methodNamed Bd.named Bd.method).1
  have X0 : Stand p l e ({ frames := 0, cells := 0, slots := 0, locals := 0 } : Room) s m #[(.int p1), (.int p2)] below meth c s₁ [] 0 0 := Stand.of_body Bd
  have e0 : s₁.heap = h0 := by rw [← hh, Bd.state]; rfl
  have N0 := Fr.nil n0
  have a0s : ∀ t, Steps p.tables e below (s₁.setTop (mkF m 0 #[.val (.int p1), .val (.int p2)] [])) t → Steps p.tables e below (s₁.setTop (entryFrame m #[(.int p1), (.int p2)] 2)) t := fun t k => castTop (ef_rm11 m p1 p2) k
  have ac1 : ∀ t, Steps p.tables e below (s₁.setTop (mkF m 2 #[.val (.int p1), .val (.int p2)] [(.int p2), (.int p1)])) t → Steps p.tables e below (s₁.setTop (entryFrame m #[(.int p1), (.int p2)] 2)) t := fun t k => a0s t (by
      show Steps p.tables e below (s₁.setTop (mkF m 0 #[.val (.int p1), .val (.int p2)] [])) _
      refine XS.iloadN X0.here hx rfl (hb hby d11_0) rfl ?_
      show Steps p.tables e below (s₁.setTop (mkF m 1 #[.val (.int p1), .val (.int p2)] [(.int p1)])) _
      refine XS.iloadN X0.here hx rfl (hb hby d11_1) rfl ?_
      exact k)
  by_cases hm : p1 < p2
  ·
    have ac2 : ∀ t, Steps p.tables e below (s₁.setTop (mkF m 10 #[.val (.int p1), .val (.int p2)] [(.int p2)])) t → Steps p.tables e below (s₁.setTop (entryFrame m #[(.int p1), (.int p2)] 2)) t := fun t k => ac1 t (by
        show Steps p.tables e below (s₁.setTop (mkF m 2 #[.val (.int p1), .val (.int p2)] [(.int p2), (.int p1)])) _
        refine XS.icmpYes X0.here hx rfl (pc0 := 2) (pc' := 9) rfl (hb hby d11_2) rfl (tlt hm).1 (by decide) (by decide) ?_
        show Steps p.tables e below (s₁.setTop (mkF m 9 #[.val (.int p1), .val (.int p2)] [])) _
        refine XS.iloadN X0.here hx rfl (hb hby d11_9) rfl ?_
        exact k)
    obtain ⟨fs, hr, hrun, hended, hW, hsame⟩ := X0.leave (v := some (.int p2)) (fun h => by rw [Bd.returns] at h; cases h) (BodyLoose.notSynchronized Bd)
    refine ⟨_, _, ac2 _ ?_, hrun, hended, _, _, rfl, ?_, ⟨_, rfl⟩, hW, hsame.mono (by decide) (by decide)⟩
    · show Steps p.tables e below (s₁.setTop (mkF m 10 #[.val (.int p1), .val (.int p2)] [(.int p2)])) _
      exact retI X0 hx Bd.returns (hb hby d11_10) hr
    · show Q11 Z p1 p2 h0 n0 _ s₁.heap _
      rw [e0]
      exact ⟨(congrArg (fun z => some (Value.int z)) (own_max_t hm)).symm, N0, rfl⟩
  ·
    have ac3 : ∀ t, Steps p.tables e below (s₁.setTop (mkF m 10 #[.val (.int p1), .val (.int p2)] [(.int p1)])) t → Steps p.tables e below (s₁.setTop (entryFrame m #[(.int p1), (.int p2)] 2)) t := fun t k => ac1 t (by
        show Steps p.tables e below (s₁.setTop (mkF m 2 #[.val (.int p1), .val (.int p2)] [(.int p2), (.int p1)])) _
        refine XS.icmpNo X0.here hx rfl (hb hby d11_2) rfl (flt hm).1 ?_
        show Steps p.tables e below (s₁.setTop (mkF m 5 #[.val (.int p1), .val (.int p2)] [])) _
        refine XS.iloadN X0.here hx rfl (hb hby d11_5) rfl ?_
        show Steps p.tables e below (s₁.setTop (mkF m 6 #[.val (.int p1), .val (.int p2)] [(.int p1)])) _
        refine XS.goto X0.here hx rfl (pc0 := 6) (pc' := 10) rfl (hb hby d11_6) (by decide) (by decide) ?_
        exact k)
    obtain ⟨fs, hr, hrun, hended, hW, hsame⟩ := X0.leave (v := some (.int p1)) (fun h => by rw [Bd.returns] at h; cases h) (BodyLoose.notSynchronized Bd)
    refine ⟨_, _, ac3 _ ?_, hrun, hended, _, _, rfl, ?_, ⟨_, rfl⟩, hW, hsame.mono (by decide) (by decide)⟩
    · show Steps p.tables e below (s₁.setTop (mkF m 10 #[.val (.int p1), .val (.int p2)] [(.int p1)])) _
      exact retI X0 hx Bd.returns (hb hby d11_10) hr
    · show Q11 Z p1 p2 h0 n0 _ s₁.heap _
      rw [e0]
      exact ⟨(congrArg (fun z => some (Value.int z)) (own_max_f hm)).symm, N0, rfl⟩
theorem ef_rm8 (m : MethodId) (x0 : Int32) (x1 : Int32) (x2 : Int32) : entryFrame m #[(.int x0), (.int x1), (.int x2)] 3 = mkF m 0 #[.val (.int x0), .val (.int x1), .val (.int x2)] [] := by first | (simp [entryFrame, mkF, argsToLocals, Value.category]; done) | rfl
def Q8 (Z : State) (p1 : Int32) (p2 : Int32) (p3 : Int32) (h0 : Heap) (n0 : Nat) (v : Option Value) (h : Heap) (L : List Loc) : Prop := v = none ∧ Fr n0 L ∧ h = h0
set_option maxRecDepth 65536 in
set_option maxHeartbeats 40000000 in
theorem rm8 (l : Launch) (Z : State) (a0 : Array Value) (hw : ∀ d ∈ tables_1, d.before a0 Z = true) (ws : List Jvm.Cond) (p1 : Int32) (p2 : Int32) (p3 : Int32) (h0 : Heap) (n0 : Nat) (Z0 : n0 ≤ h0.size) (h12 : ¬ p3 < p2) (h2 : ¬ p2 < 0) (h3 : ¬ p1 < p3) :
    MetFree l (⟨"java/util/Arrays", "rangeCheck", "(III)V"⟩ : MethodName) (head1 (Jvm.Cond.code (⟨"java/util/Arrays", "rangeCheck", "(III)V"⟩ : MethodName) jdk_65_method_30_code 3 none :: ws) ({ frames := 0, cells := 0, slots := 0, locals := 0 } : Room)) (fun a U => a = #[(.int p1), (.int p2), (.int p3)] ∧ Z.Warmed39 U.vm ∧ U.heap = h0) (fun _ _ _ _ _ => True) (fun _ U o U' => ∃ v L, o = .returned v ∧ Q8 Z p1 p2 p3 h0 n0 v U'.heap L ∧ FrameEnd U o U' L ({ frames := 0, cells := 0, slots := 0, locals := 0 } : Room).cells ({ frames := 0, cells := 0, slots := 0, locals := 0 } : Room).slots) := by
  refine MetFree.of_bodySF (plainFor_of_name pn_8) hisR ?_
  intro p e s m args below meth c s₁ Bd hml0 hP hK
  obtain ⟨rfl, hZ, hh⟩ := hP
  have hx := Bd.exec
  have hby := Bd.bytes
  have hml : c.maxLocals = 3 := hml0
  have hown : s.vm.findClass "java/util/Arrays" = some m.cls := findClass_of_methodNamed Bd.named
  have hnm := (name_of_methodNamed Bd.named Bd.method).1
  have X0 : Stand p l e ({ frames := 0, cells := 0, slots := 0, locals := 0 } : Room) s m #[(.int p1), (.int p2), (.int p3)] below meth c s₁ [] 0 0 := Stand.of_body Bd
  have e0 : s₁.heap = h0 := by rw [← hh, Bd.state]; rfl
  have N0 := Fr.nil n0
  have a0s : ∀ t, Steps p.tables e below (s₁.setTop (mkF m 0 #[.val (.int p1), .val (.int p2), .val (.int p3)] [])) t → Steps p.tables e below (s₁.setTop (entryFrame m #[(.int p1), (.int p2), (.int p3)] 3)) t := fun t k => castTop (ef_rm8 m p1 p2 p3) k
  have ac1 : ∀ t, Steps p.tables e below (s₁.setTop (mkF m 73 #[.val (.int p1), .val (.int p2), .val (.int p3)] [])) t → Steps p.tables e below (s₁.setTop (entryFrame m #[(.int p1), (.int p2), (.int p3)] 3)) t := fun t k => a0s t (by
      show Steps p.tables e below (s₁.setTop (mkF m 0 #[.val (.int p1), .val (.int p2), .val (.int p3)] [])) _
      refine XS.iloadN X0.here hx rfl (hb hby d8_0) rfl ?_
      show Steps p.tables e below (s₁.setTop (mkF m 1 #[.val (.int p1), .val (.int p2), .val (.int p3)] [(.int p2)])) _
      refine XS.iloadN X0.here hx rfl (hb hby d8_1) rfl ?_
      show Steps p.tables e below (s₁.setTop (mkF m 2 #[.val (.int p1), .val (.int p2), .val (.int p3)] [(.int p3), (.int p2)])) _
      refine XS.icmpYes X0.here hx rfl (pc0 := 2) (pc' := 46) rfl (hb hby d8_2) rfl (flt h12).2.2.2 (by decide) (by decide) ?_
      show Steps p.tables e below (s₁.setTop (mkF m 46 #[.val (.int p1), .val (.int p2), .val (.int p3)] [])) _
      refine XS.iloadN X0.here hx rfl (hb hby d8_46) rfl ?_
      show Steps p.tables e below (s₁.setTop (mkF m 47 #[.val (.int p1), .val (.int p2), .val (.int p3)] [(.int p2)])) _
      refine XS.ifYes X0.here hx rfl (pc0 := 47) (pc' := 59) rfl (hb hby d8_47) rfl ((if0 _ _).trans (flt h2).2.1) (by decide) (by decide) ?_
      show Steps p.tables e below (s₁.setTop (mkF m 59 #[.val (.int p1), .val (.int p2), .val (.int p3)] [])) _
      refine XS.iloadN X0.here hx rfl (hb hby d8_59) rfl ?_
      show Steps p.tables e below (s₁.setTop (mkF m 60 #[.val (.int p1), .val (.int p2), .val (.int p3)] [(.int p3)])) _
      refine XS.iloadN X0.here hx rfl (hb hby d8_60) rfl ?_
      show Steps p.tables e below (s₁.setTop (mkF m 61 #[.val (.int p1), .val (.int p2), .val (.int p3)] [(.int p1), (.int p3)])) _
      refine XS.icmpYes X0.here hx rfl (pc0 := 61) (pc' := 73) rfl (hb hby d8_61) rfl (flt h3).2.2.2 (by decide) (by decide) ?_
      exact k)
  obtain ⟨fs, hr, hrun, hended, hW, hsame⟩ := X0.leave (v := none) (fun _ => rfl) (BodyLoose.notSynchronized Bd)
  refine ⟨_, _, ac1 _ ?_, hrun, hended, _, _, rfl, ?_, ⟨_, rfl⟩, hW, hsame.mono (by decide) (by decide)⟩
  · show Steps p.tables e below (s₁.setTop (mkF m 73 #[.val (.int p1), .val (.int p2), .val (.int p3)] [])) _
    exact X0.returnOut hx Bd.returns (hb hby d8_73) hr
  · show Q8 Z p1 p2 p3 h0 n0 _ s₁.heap _
    rw [e0]
    exact ⟨rfl, N0, rfl⟩
theorem ef_rm7 (m : MethodId) (x0 : Addr) (x1 : Int32) (x2 : Int32) (x3 : Int64) : entryFrame m #[(.ref x0), (.int x1), (.int x2), (.long x3)] 6 = mkF m 0 #[.val (.ref x0), .val (.int x1), .val (.int x2), .val (.long x3), .second, .unset] [] := by first | (simp [entryFrame, mkF, argsToLocals, Value.category]; done) | rfl
def Q7 (Z : State) (a1 : Addr) (p2 : Int32) (p3 : Int32) (q4 : Int64) (n1 : Nat) (i0 : Nat) (i1 : Nat) (f : Nat → Value) (h0 : Heap) (n0 : Nat) (v : Option Value) (h : Heap) (L : List Loc) : Prop := v = none ∧ Fr n0 L ∧ Keep h0 h [a1] ∧ own_Ar Z h a1 .long n1 (fun j => if i0 ≤ j ∧ j < i1 then (.long q4) else f j)
set_option maxRecDepth 65536 in
set_option maxHeartbeats 40000000 in
theorem rm7 (l : Launch) (Z : State) (a0 : Array Value) (hw : ∀ d ∈ tables_1, d.before a0 Z = true) (ws : List Jvm.Cond) (a1 : Addr) (p2 : Int32) (p3 : Int32) (q4 : Int64) (n1 : Nat) (i0 : Nat) (i1 : Nat) (f : Nat → Value) (h0 : Heap) (n0 : Nat) (Z0 : n0 ≤ h0.size) (V1 : own_Ar Z h0 a1 .long n1 f) (g_a1 : n0 ≤ a1) (hp2 : p2.toInt = i0) (hp3 : p3.toInt = i1) (h01 : i0 ≤ i1) (h1n : i1 ≤ n1) :
    MetFree l (⟨"java/util/Arrays", "fill", "([JIIJ)V"⟩ : MethodName) (head1 (Jvm.Cond.code (⟨"java/util/Arrays", "fill", "([JIIJ)V"⟩ : MethodName) jdk_65_method_102_code 6 none :: ws) ({ frames := 1, cells := 0, slots := 0, locals := 14 } : Room)) (fun a U => a = #[(.ref a1), (.int p2), (.int p3), (.long q4)] ∧ Z.Warmed39 U.vm ∧ U.heap = h0) (fun _ _ _ _ _ => True) (fun _ U o U' => ∃ v L, o = .returned v ∧ Q7 Z a1 p2 p3 q4 n1 i0 i1 f h0 n0 v U'.heap L ∧ FrameEnd U o U' L ({ frames := 1, cells := 0, slots := 0, locals := 14 } : Room).cells ({ frames := 1, cells := 0, slots := 0, locals := 14 } : Room).slots) := by
  refine MetFree.of_bodySF (plainFor_of_name pn_7) hisR ?_
  intro p e s m args below meth c s₁ Bd hml0 hP hK
  obtain ⟨rfl, hZ, hh⟩ := hP
  have hx := Bd.exec
  have hby := Bd.bytes
  have hml : c.maxLocals = 6 := hml0
  have hown : s.vm.findClass "java/util/Arrays" = some m.cls := findClass_of_methodNamed Bd.named
  have hnm := (name_of_methodNamed Bd.named Bd.method).1
  have X0 : Stand p l e ({ frames := 1, cells := 0, slots := 0, locals := 14 } : Room) s m #[(.ref a1), (.int p2), (.int p3), (.long q4)] below meth c s₁ [] 0 0 := Stand.of_body Bd
  have e0 : s₁.heap = h0 := by rw [← hh, Bd.state]; rfl
  have N0 := Fr.nil n0
  have a0s : ∀ t, Steps p.tables e below (s₁.setTop (mkF m 0 #[.val (.ref a1), .val (.int p2), .val (.int p3), .val (.long q4), .second, .unset] [])) t → Steps p.tables e below (s₁.setTop (entryFrame m #[(.ref a1), (.int p2), (.int p3), (.long q4)] 6)) t := fun t k => castTop (ef_rm7 m a1 p2 p3 q4) k
  have ac1 : ∀ t, Steps p.tables e below (s₁.setTop (mkF m 1 #[.val (.ref a1), .val (.int p2), .val (.int p3), .val (.long q4), .second, .unset] [(.ref a1)])) t → Steps p.tables e below (s₁.setTop (entryFrame m #[(.ref a1), (.int p2), (.int p3), (.long q4)] 6)) t := fun t k => a0s t (by
      show Steps p.tables e below (s₁.setTop (mkF m 0 #[.val (.ref a1), .val (.int p2), .val (.int p3), .val (.long q4), .second, .unset] [])) _
      refine XS.aloadN X0.here hx rfl (hb hby d7_0) rfl rfl ?_
      exact k)
  obtain ⟨cl2, Ac2, hl2, hb2⟩ := V1.len
  have hn1 := own_ofNat hb2
  have ac3 : ∀ t, Steps p.tables e below (s₁.setTop (mkF m 4 #[.val (.ref a1), .val (.int p2), .val (.int p3), .val (.long q4), .second, .unset] [(.int p3), (.int p2), (.int (Int32.ofNat n1))])) t → Steps p.tables e below (s₁.setTop (entryFrame m #[(.ref a1), (.int p2), (.int p3), (.long q4)] 6)) t := fun t k => ac1 t (by
      show Steps p.tables e below (s₁.setTop (mkF m 1 #[.val (.ref a1), .val (.int p2), .val (.int p3), .val (.long q4), .second, .unset] [(.ref a1)])) _
      refine X0.arraylength hx (by rw [e0]; exact Ac2.1) (State.isArrayOf_alike hZ.alike Ac2.2.1) (g := (mkF m 1 #[.val (.ref a1), .val (.int p2), .val (.int p3), .val (.long q4), .second, .unset] [(.ref a1)])) rfl rfl (hb hby d7_1) _ ?_
      rw [hl2]
      show Steps p.tables e below (s₁.setTop (mkF m 2 #[.val (.ref a1), .val (.int p2), .val (.int p3), .val (.long q4), .second, .unset] [(.int (Int32.ofNat n1))])) _
      refine XS.iloadN X0.here hx rfl (hb hby d7_2) rfl ?_
      show Steps p.tables e below (s₁.setTop (mkF m 3 #[.val (.ref a1), .val (.int p2), .val (.int p3), .val (.long q4), .second, .unset] [(.int p2), (.int (Int32.ofNat n1))])) _
      refine XS.iloadN X0.here hx rfl (hb hby d7_3) rfl ?_
      exact k)
  obtain ⟨_, _, ⟨T4, L4, k4, n4⟩, -, X4, ⟨Lc4, hQ4, l4, y4, z4⟩, st4⟩ := Jvm.LawKit.callS X0 hx (y := (⟨"java/util/Arrays", "rangeCheck", "(III)V"⟩ : MethodName)) hown (mvT hZ (hw _ (List.mem_of_getElem? (i := 52) rfl))) (mvT hZ (hw _ (List.mem_of_getElem? (i := 53) rfl))) (mvT hZ (hw _ (List.mem_of_getElem? (i := 35) rfl))) (mvT hZ (hw _ (List.mem_of_getElem? (i := 54) rfl))) (by decide) (backOf (W := 0) (rm8 l Z a0 hw [] (Int32.ofNat n1) p2 p3  h0 n0 Z0 (own_nlt_of (by omega)) (own_lt0 (by omega)) (own_nlt_of (by omega))) hZ (hw _ (List.mem_of_getElem? (i := 54) rfl)) (hw _ (List.mem_of_getElem? (i := 35) rfl)) (by decide) (by decide)) (g := (mkF m 4 #[.val (.ref a1), .val (.int p2), .val (.int p3), .val (.long q4), .second, .unset] [(.int p3), (.int p2), (.int (Int32.ofNat n1))])) rfl (by rw [hml]; rfl) (argsL := [(.int (Int32.ofNat n1)), (.int p2), (.int p3)]) (rest := []) (lenOf pd_6 rfl) rfl (by show 2 * 0 + _ ≤ _; exact Nat.le_of_eq rfl) (hb hby d7_4) (fun _ _ => ⟨rfl, e0, (by decide : 0 + 0 ≤ _), (by decide : 0 + 0 ≤ _)⟩)
  dsimp only [Pt.U, Pt.locs, Pt.cells, Pt.slots] at X4 l4 y4 z4 st4 hQ4
  subst l4 y4 z4
  obtain ⟨rfl, N4q, Qe4⟩ := hQ4
  have N4 := Fr.app N0 N4q
  have ac5 : ∀ t, Steps p.tables e below (T4.setTop (mkF m 7 #[.val (.ref a1), .val (.int p2), .val (.int p3), .val (.long q4), .second, .unset] [])) t → Steps p.tables e below (s₁.setTop (entryFrame m #[(.ref a1), (.int p2), (.int p3), (.long q4)] 6)) t := fun t k => ac3 t (st4 t k)
  have ac6 : ∀ t, Steps p.tables e below (T4.setTop (mkF m 10 #[.val (.ref a1), .val (.int p2), .val (.int p3), .val (.long q4), .second, .val (.int p2)] [])) t → Steps p.tables e below (s₁.setTop (entryFrame m #[(.ref a1), (.int p2), (.int p3), (.long q4)] 6)) t := fun t k => ac5 t (by
      show Steps p.tables e below (T4.setTop (mkF m 7 #[.val (.ref a1), .val (.int p2), .val (.int p3), .val (.long q4), .second, .unset] [])) _
      refine XS.iloadN X4.here hx rfl (hb hby d7_7) rfl ?_
      show Steps p.tables e below (T4.setTop (mkF m 8 #[.val (.ref a1), .val (.int p2), .val (.int p3), .val (.long q4), .second, .unset] [(.int p2)])) _
      refine XS.istore X4.here hx rfl (hb hby d7_8) rfl (l' := #[.val (.ref a1), .val (.int p2), .val (.int p3), .val (.long q4), .second, .val (.int p2)]) rfl ?_
      exact k)
  have loop : ∀ (k : Nat) (T : State) (hL : Heap) (locs : List Loc) (i : Int32) (j0 : Nat) (fL : Nat → Value), Stand p l e ({ frames := 1, cells := 0, slots := 0, locals := 14 } : Room) s m #[(.ref a1), (.int p2), (.int p3), (.long q4)] below meth c T locs 0 0 → T.heap = hL → own_Ar Z hL a1 .long n1 fL → Fr n0 locs → n0 ≤ hL.size → i.toInt = j0 → j0 + k = i1 →
      ∃ (T' : State) (h' : Heap) (locs' : List Loc) (iE : Int32), Stand p l e ({ frames := 1, cells := 0, slots := 0, locals := 14 } : Room) s m #[(.ref a1), (.int p2), (.int p3), (.long q4)] below meth c T' locs' 0 0 ∧ T'.heap = h' ∧ Fr n0 locs' ∧ Keep hL h' [a1] ∧ own_Ar Z h' a1 .long n1 (fun j => if j0 ≤ j ∧ j < i1 then (.long q4) else fL j) ∧ ∀ t, Steps p.tables e below (T'.setTop (mkF m 27 #[.val (.ref a1), .val (.int p2), .val (.int p3), .val (.long q4), .second, .val (.int iE)] [])) t → Steps p.tables e below (T.setTop (mkF m 10 #[.val (.ref a1), .val (.int p2), .val (.int p3), .val (.long q4), .second, .val (.int i)] [])) t := by
    intro k
    induction k with
    | zero =>
      intro T hL locs i j0 fL XL eL VL NL ZL hi hk
      have aL : ∀ t, Steps p.tables e below (T.setTop (mkF m 10 #[.val (.ref a1), .val (.int p2), .val (.int p3), .val (.long q4), .second, .val (.int i)] [])) t → Steps p.tables e below (T.setTop (mkF m 10 #[.val (.ref a1), .val (.int p2), .val (.int p3), .val (.long q4), .second, .val (.int i)] [])) t := fun t k => k
      have ac7 : ∀ t, Steps p.tables e below (T.setTop (mkF m 27 #[.val (.ref a1), .val (.int p2), .val (.int p3), .val (.long q4), .second, .val (.int i)] [])) t → Steps p.tables e below (T.setTop (mkF m 10 #[.val (.ref a1), .val (.int p2), .val (.int p3), .val (.long q4), .second, .val (.int i)] [])) t := fun t k => aL t (by
          show Steps p.tables e below (T.setTop (mkF m 10 #[.val (.ref a1), .val (.int p2), .val (.int p3), .val (.long q4), .second, .val (.int i)] [])) _
          refine XS.iload XL.here hx rfl (hb hby d7_10) rfl ?_
          show Steps p.tables e below (T.setTop (mkF m 12 #[.val (.ref a1), .val (.int p2), .val (.int p3), .val (.long q4), .second, .val (.int i)] [(.int i)])) _
          refine XS.iloadN XL.here hx rfl (hb hby d7_12) rfl ?_
          show Steps p.tables e below (T.setTop (mkF m 13 #[.val (.ref a1), .val (.int p2), .val (.int p3), .val (.long q4), .second, .val (.int i)] [(.int p3), (.int i)])) _
          refine XS.icmpYes XL.here hx rfl (pc0 := 13) (pc' := 27) rfl (hb hby d7_13) rfl (flt (own_nlt_of (by omega))).2.1 (by decide) (by decide) ?_
          exact k)
      exact ⟨T, hL, locs, i, XL, eL, NL, Keep.refl _ _, VL.eq (fun j hj => (if_neg (by omega)).symm), ac7⟩
    | succ k ih =>
      intro T hL locs i j0 fL XL eL VL NL ZL hi hk
      have aL : ∀ t, Steps p.tables e below (T.setTop (mkF m 10 #[.val (.ref a1), .val (.int p2), .val (.int p3), .val (.long q4), .second, .val (.int i)] [])) t → Steps p.tables e below (T.setTop (mkF m 10 #[.val (.ref a1), .val (.int p2), .val (.int p3), .val (.long q4), .second, .val (.int i)] [])) t := fun t k => k
      have ac8 : ∀ t, Steps p.tables e below (T.setTop (mkF m 20 #[.val (.ref a1), .val (.int p2), .val (.int p3), .val (.long q4), .second, .val (.int i)] [(.long q4), (.int i), (.ref a1)])) t → Steps p.tables e below (T.setTop (mkF m 10 #[.val (.ref a1), .val (.int p2), .val (.int p3), .val (.long q4), .second, .val (.int i)] [])) t := fun t k => aL t (by
          show Steps p.tables e below (T.setTop (mkF m 10 #[.val (.ref a1), .val (.int p2), .val (.int p3), .val (.long q4), .second, .val (.int i)] [])) _
          refine XS.iload XL.here hx rfl (hb hby d7_10) rfl ?_
          show Steps p.tables e below (T.setTop (mkF m 12 #[.val (.ref a1), .val (.int p2), .val (.int p3), .val (.long q4), .second, .val (.int i)] [(.int i)])) _
          refine XS.iloadN XL.here hx rfl (hb hby d7_12) rfl ?_
          show Steps p.tables e below (T.setTop (mkF m 13 #[.val (.ref a1), .val (.int p2), .val (.int p3), .val (.long q4), .second, .val (.int i)] [(.int p3), (.int i)])) _
          refine XS.icmpNo XL.here hx rfl (hb hby d7_13) rfl (tlt (own_lt_of (by omega))).2.1 ?_
          show Steps p.tables e below (T.setTop (mkF m 16 #[.val (.ref a1), .val (.int p2), .val (.int p3), .val (.long q4), .second, .val (.int i)] [])) _
          refine XS.aloadN XL.here hx rfl (hb hby d7_16) rfl rfl ?_
          show Steps p.tables e below (T.setTop (mkF m 17 #[.val (.ref a1), .val (.int p2), .val (.int p3), .val (.long q4), .second, .val (.int i)] [(.ref a1)])) _
          refine XS.iload XL.here hx rfl (hb hby d7_17) rfl ?_
          show Steps p.tables e below (T.setTop (mkF m 19 #[.val (.ref a1), .val (.int p2), .val (.int p3), .val (.long q4), .second, .val (.int i)] [(.int i), (.ref a1)])) _
          refine XS.lloadN XL.here hx rfl (hb hby d7_19) rfl ?_
          exact k)
      obtain ⟨cl9, Ac9, hin9, -⟩ := VL.at (j := i) (i := j0) hi (by omega)
      obtain ⟨T9, h9, X9, e9, W9, st9⟩ := stJ XL hx hZ eL Ac9 (j := i) hin9 (g := (mkF m 20 #[.val (.ref a1), .val (.int p2), .val (.int p3), .val (.long q4), .second, .val (.int i)] [(.long q4), (.int i), (.ref a1)])) rfl rfl (hb hby d7_20)
      have V9 := VL.set (i := j0) hi W9 rfl
      have N9 := Fr.snoc X9 NL g_a1
      have Z9 : n0 ≤ h9.size := Nat.le_trans ZL (Keep.of_wr W9).1
      have ac10 : ∀ t, Steps p.tables e below (T9.setTop (mkF m 21 #[.val (.ref a1), .val (.int p2), .val (.int p3), .val (.long q4), .second, .val (.int i)] [])) t → Steps p.tables e below (T.setTop (mkF m 10 #[.val (.ref a1), .val (.int p2), .val (.int p3), .val (.long q4), .second, .val (.int i)] [])) t := fun t k => ac8 t (st9 t k)
      have ac11 : ∀ t, Steps p.tables e below (T9.setTop (mkF m 10 #[.val (.ref a1), .val (.int p2), .val (.int p3), .val (.long q4), .second, .val (.int (i + (1 : Int32)))] [])) t → Steps p.tables e below (T.setTop (mkF m 10 #[.val (.ref a1), .val (.int p2), .val (.int p3), .val (.long q4), .second, .val (.int i)] [])) t := fun t k => ac10 t (by
          show Steps p.tables e below (T9.setTop (mkF m 21 #[.val (.ref a1), .val (.int p2), .val (.int p3), .val (.long q4), .second, .val (.int i)] [])) _
          refine XS.iinc X9.here hx rfl (hb hby d7_21) rfl (l' := #[.val (.ref a1), .val (.int p2), .val (.int p3), .val (.long q4), .second, .val (.int (i + (1 : Int32)))]) rfl ?_
          show Steps p.tables e below (T9.setTop (mkF m 24 #[.val (.ref a1), .val (.int p2), .val (.int p3), .val (.long q4), .second, .val (.int (i + (1 : Int32)))] [])) _
          refine XS.goto X9.here hx rfl (pc0 := 24) (pc' := 10) rfl (hb hby d7_24) (by decide) (by decide) ?_
          exact k)
      have ci := c_iadd i 1
      have ri := rng32 (i + 1)
      have r3 := rng32 p3
      have z1 : (1 : Int32).toInt = 1 := rfl
      obtain ⟨T', h', locs', iE, X', e', N', K', V', st'⟩ := ih T9 h9 _ (i + (1 : Int32)) (j0 + 1) _ X9 e9 V9 N9 Z9 (by omega) (by omega)
      refine ⟨T', h', locs', iE, X', e', N', (Keep.of_wr W9).trans K' (allS (Or.inl (List.mem_of_getElem? (i := 0) rfl)) all0), V'.eq (fun j hj => ?_), fun t k => ac11 t (st' t k)⟩
      by_cases u : j = j0
      · rw [if_neg (by omega), if_pos u, if_pos (by omega)]
      · by_cases v : j0 + 1 ≤ j ∧ j < i1
        · rw [if_pos v, if_pos (by omega)]
        · rw [if_neg v, if_neg u, if_neg (by omega)]
  obtain ⟨T12, h12, Lc12, iE12, X12, e12, Nq12, K12q, V12, st12⟩ := loop (i1 - i0) T4 h0 _ p2 i0 f X4 Qe4 V1 N4 Z0 hp2 (by omega)
  have ac13 : ∀ t, Steps p.tables e below (T12.setTop (mkF m 27 #[.val (.ref a1), .val (.int p2), .val (.int p3), .val (.long q4), .second, .val (.int iE12)] [])) t → Steps p.tables e below (s₁.setTop (entryFrame m #[(.ref a1), (.int p2), (.int p3), (.long q4)] 6)) t := fun t k => ac6 t (st12 t k)
  obtain ⟨fs, hr, hrun, hended, hW, hsame⟩ := X12.leave (v := none) (fun _ => rfl) (BodyLoose.notSynchronized Bd)
  refine ⟨_, _, ac13 _ ?_, hrun, hended, _, _, rfl, ?_, ⟨_, rfl⟩, hW, hsame.mono (by decide) (by decide)⟩
  · show Steps p.tables e below (T12.setTop (mkF m 27 #[.val (.ref a1), .val (.int p2), .val (.int p3), .val (.long q4), .second, .val (.int iE12)] [])) _
    exact X12.returnOut hx Bd.returns (hb hby d7_27) hr
  · show Q7 Z a1 p2 p3 q4 n1 i0 i1 f h0 n0 _ T12.heap _
    rw [e12]
    exact ⟨rfl, Nq12, K12q, V12⟩
theorem ef_rm6 (m : MethodId) (x0 : Addr) (x1 : Int32) : entryFrame m #[(.ref x0), (.int x1)] 3 = mkF m 0 #[.val (.ref x0), .val (.int x1), .unset] [] := by first | (simp [entryFrame, mkF, argsToLocals, Value.category]; done) | rfl
def Q6 (Z : State) (a1 : Addr) (p2 : Int32) (n1 : Nat) (n2 : Nat) (f : Nat → Value) (h0 : Heap) (n0 : Nat) (v : Option Value) (h : Heap) (L : List Loc) : Prop := ∃ r : Addr, v = some (.ref r) ∧ Fr n0 L ∧ Keep h0 h [] ∧ h0.size ≤ r ∧ own_Ar Z h r .long n2 (fun i => if i < n1 then f i else (.long (0 : Int64))) ∧ Exa Z h r "[J"
set_option maxRecDepth 65536 in
set_option maxHeartbeats 40000000 in
theorem rm6 (l : Launch) (Z : State) (a0 : Array Value) (hw : ∀ d ∈ tables_1, d.before a0 Z = true) (ws : List Jvm.Cond) (a1 : Addr) (p2 : Int32) (n1 : Nat) (n2 : Nat) (f : Nat → Value) (h0 : Heap) (n0 : Nat) (Z0 : n0 ≤ h0.size) (V1 : own_Ar Z h0 a1 .long n1 f) (E1 : Exa Z h0 a1 "[J") (hp2 : p2.toInt = n2) (h12 : n1 ≤ n2) (hcap : n2 ≤ 1024) :
    MetFree l (⟨"java/util/Arrays", "copyOf", "([JI)[J"⟩ : MethodName) (head1 (Jvm.Cond.code (⟨"java/util/Arrays", "copyOf", "([JI)[J"⟩ : MethodName) jdk_65_method_124_code 3 (some (.array .long)) :: ws) ({ frames := 1, cells := 1, slots := 1024, locals := 18 } : Room)) (fun a U => a = #[(.ref a1), (.int p2)] ∧ Z.Warmed39 U.vm ∧ U.heap = h0) (fun _ _ _ _ _ => True) (fun _ U o U' => ∃ v L, o = .returned v ∧ Q6 Z a1 p2 n1 n2 f h0 n0 v U'.heap L ∧ FrameEnd U o U' L ({ frames := 1, cells := 1, slots := 1024, locals := 18 } : Room).cells ({ frames := 1, cells := 1, slots := 1024, locals := 18 } : Room).slots) := by
  refine MetFree.of_bodySF (plainFor_of_name pn_6) hisR ?_
  intro p e s m args below meth c s₁ Bd hml0 hP hK
  obtain ⟨rfl, hZ, hh⟩ := hP
  have hx := Bd.exec
  have hby := Bd.bytes
  have hml : c.maxLocals = 3 := hml0
  have hown : s.vm.findClass "java/util/Arrays" = some m.cls := findClass_of_methodNamed Bd.named
  have hnm := (name_of_methodNamed Bd.named Bd.method).1
  have X0 : Stand p l e ({ frames := 1, cells := 1, slots := 1024, locals := 18 } : Room) s m #[(.ref a1), (.int p2)] below meth c s₁ [] 0 0 := Stand.of_body Bd
  have e0 : s₁.heap = h0 := by rw [← hh, Bd.state]; rfl
  have N0 := Fr.nil n0
  have a0s : ∀ t, Steps p.tables e below (s₁.setTop (mkF m 0 #[.val (.ref a1), .val (.int p2), .unset] [])) t → Steps p.tables e below (s₁.setTop (entryFrame m #[(.ref a1), (.int p2)] 3)) t := fun t k => castTop (ef_rm6 m a1 p2) k
  have ac1 : ∀ t, Steps p.tables e below (s₁.setTop (mkF m 2 #[.val (.ref a1), .val (.int p2), .unset] [(.ref a1), (.int p2)])) t → Steps p.tables e below (s₁.setTop (entryFrame m #[(.ref a1), (.int p2)] 3)) t := fun t k => a0s t (by
      show Steps p.tables e below (s₁.setTop (mkF m 0 #[.val (.ref a1), .val (.int p2), .unset] [])) _
      refine XS.iloadN X0.here hx rfl (hb hby d6_0) rfl ?_
      show Steps p.tables e below (s₁.setTop (mkF m 1 #[.val (.ref a1), .val (.int p2), .unset] [(.int p2)])) _
      refine XS.aloadN X0.here hx rfl (hb hby d6_1) rfl rfl ?_
      exact k)
  obtain ⟨cl2, Ac2, hl2, hb2⟩ := V1.len
  have hn1 := own_ofNat hb2
  have ac3 : ∀ t, Steps p.tables e below (s₁.setTop (mkF m 3 #[.val (.ref a1), .val (.int p2), .unset] [(.int (Int32.ofNat n1)), (.int p2)])) t → Steps p.tables e below (s₁.setTop (entryFrame m #[(.ref a1), (.int p2)] 3)) t := fun t k => ac1 t (by
      show Steps p.tables e below (s₁.setTop (mkF m 2 #[.val (.ref a1), .val (.int p2), .unset] [(.ref a1), (.int p2)])) _
      refine X0.arraylength hx (by rw [e0]; exact Ac2.1) (State.isArrayOf_alike hZ.alike Ac2.2.1) (g := (mkF m 2 #[.val (.ref a1), .val (.int p2), .unset] [(.ref a1), (.int p2)])) rfl rfl (hb hby d6_2) _ ?_
      rw [hl2]
      exact k)
  by_cases he : p2 = (Int32.ofNat n1)
  ·
    have hnn : n1 = n2 := by rw [he] at hp2; omega
    have ac4 : ∀ t, Steps p.tables e below (s₁.setTop (mkF m 7 #[.val (.ref a1), .val (.int p2), .unset] [(.ref a1)])) t → Steps p.tables e below (s₁.setTop (entryFrame m #[(.ref a1), (.int p2)] 3)) t := fun t k => ac3 t (by
        show Steps p.tables e below (s₁.setTop (mkF m 3 #[.val (.ref a1), .val (.int p2), .unset] [(.int (Int32.ofNat n1)), (.int p2)])) _
        refine XS.icmpNo X0.here hx rfl (hb hby d6_3) rfl (teq he).2 ?_
        show Steps p.tables e below (s₁.setTop (mkF m 6 #[.val (.ref a1), .val (.int p2), .unset] [])) _
        refine XS.aloadN X0.here hx rfl (hb hby d6_6) rfl rfl ?_
        exact k)
    obtain ⟨T5, h5, X5, e5, E5, V5, Ea5, st5⟩ := own_clone X0 hx hZ hown (hw _ (List.mem_of_getElem? (i := 37) rfl)) (hw _ (List.mem_of_getElem? (i := 38) rfl)) (hw _ (List.mem_of_getElem? (i := 42) rfl)) (hw _ (List.mem_of_getElem? (i := 40) rfl)) (hw _ (List.mem_of_getElem? (i := 41) rfl)) (hw _ (List.mem_of_getElem? (i := 43) rfl)) e0 V1 E1 (g := (mkF m 7 #[.val (.ref a1), .val (.int p2), .unset] [(.ref a1)])) rfl (by rw [hml]; rfl) rfl (hb hby d6_7) (by decide) (W := 0) (cap := 1024) (by show 2 * 0 + _ ≤ _; exact Nat.le_of_eq rfl) (by decide) (by omega) (by decide) (by decide)
    obtain ⟨b5, g5⟩ : ∃ z, z = h0.size := ⟨_, rfl⟩
    rw [← g5] at V5 Ea5 st5
    have g_b5 : n0 ≤ b5 := Nat.le_trans Z0 (Nat.le_of_eq g5.symm)
    have sz_b5 : h0.size ≤ b5 := Nat.le_trans (Keep.refl h0 []).1 (Nat.le_of_eq g5.symm)
    have ne_a1_b5 : a1 ≠ b5 := Nat.ne_of_lt (Nat.lt_of_lt_of_le V1.lt (Nat.le_of_eq g5.symm))
    have Vf6 := V1.ext E5
    have Ef7 := E1.ext E5
    have Z5 : n0 ≤ h5.size := Nat.le_trans Z0 E5.1
    have Kp8 : Keep h0 h5 [] := (Keep.refl h0 []).ext E5
    have ac9 : ∀ t, Steps p.tables e below (T5.setTop (mkF m 10 #[.val (.ref a1), .val (.int p2), .unset] [(.ref b5)])) t → Steps p.tables e below (s₁.setTop (entryFrame m #[(.ref a1), (.int p2)] 3)) t := fun t k => ac4 t (st5 t k)
    obtain ⟨T10, X10, e10, st10⟩ := castY X5 hx hZ hown (hw _ (List.mem_of_getElem? (i := 44) rfl)) e5 (Ins.self Ea5) (g := (mkF m 10 #[.val (.ref a1), .val (.int p2), .unset] [(.ref b5)])) rfl rfl (hb hby d6_10)
    have ac11 : ∀ t, Steps p.tables e below (T10.setTop (mkF m 13 #[.val (.ref a1), .val (.int p2), .unset] [(.ref b5)])) t → Steps p.tables e below (s₁.setTop (entryFrame m #[(.ref a1), (.int p2)] 3)) t := fun t k => ac9 t (st10 t k)
    obtain ⟨fs, hr, hrun, hended, hW, hsame⟩ := X10.leave (v := some (.ref b5)) (fun h => by rw [Bd.returns] at h; cases h) (BodyLoose.notSynchronized Bd)
    refine ⟨_, _, ac11 _ ?_, hrun, hended, _, _, rfl, ?_, ⟨_, rfl⟩, hW, hsame.mono (by decide) (by decide)⟩
    · show Steps p.tables e below (T10.setTop (mkF m 13 #[.val (.ref a1), .val (.int p2), .unset] [(.ref b5)])) _
      exact retOut X10 hx Bd.returns rfl (Or.inr (Or.inr (Or.inr (Or.inr ⟨rfl, rfl, rfl⟩)))) (hb hby d6_13) hr
    · show Q6 Z a1 p2 n1 n2 f h0 n0 _ T10.heap _
      rw [e10]
      exact ⟨b5, rfl, N0, Kp8, sz_b5, ((V5.size hnn).eq (fun i hi => (if_pos (by omega)).symm)), Ea5⟩
  ·
    have hnn : n1 < n2 := Nat.lt_of_le_of_ne h12 (fun q => he (own_eq_of (by omega)))
    have ac12 : ∀ t, Steps p.tables e below (s₁.setTop (mkF m 15 #[.val (.ref a1), .val (.int p2), .unset] [(.int p2)])) t → Steps p.tables e below (s₁.setTop (entryFrame m #[(.ref a1), (.int p2)] 3)) t := fun t k => ac3 t (by
        show Steps p.tables e below (s₁.setTop (mkF m 3 #[.val (.ref a1), .val (.int p2), .unset] [(.int (Int32.ofNat n1)), (.int p2)])) _
        refine XS.icmpYes X0.here hx rfl (pc0 := 3) (pc' := 14) rfl (hb hby d6_3) rfl (feq he).2 (by decide) (by decide) ?_
        show Steps p.tables e below (s₁.setTop (mkF m 14 #[.val (.ref a1), .val (.int p2), .unset] [])) _
        refine XS.iloadN X0.here hx rfl (hb hby d6_14) rfl ?_
        exact k)
    obtain ⟨T13, h13, k13, X13, e13, E13, A13, Ea13, st13⟩ := newPE X0 hx hZ (hw _ (List.mem_of_getElem? (i := 9) rfl)) e0 (g := (mkF m 15 #[.val (.ref a1), .val (.int p2), .unset] [(.int p2)])) rfl (hb hby d6_15) rfl (own_lt0 (by omega)) (cap := 1024) (by have := own_nat (j := p2) (by omega); omega) (by decide) (by decide) (by decide) (ad := "[J") (by decide)
    obtain ⟨b13, g13⟩ : ∃ z, z = h0.size := ⟨_, rfl⟩
    rw [← g13] at A13 st13 Ea13
    have g_b13 : n0 ≤ b13 := Nat.le_trans Z0 (Nat.le_of_eq g13.symm)
    have sz_b13 : h0.size ≤ b13 := Nat.le_trans (Keep.refl h0 []).1 (Nat.le_of_eq g13.symm)
    have ne_a1_b13 : a1 ≠ b13 := Nat.ne_of_lt (Nat.lt_of_lt_of_le V1.lt (Nat.le_of_eq g13.symm))
    have Vf14 := V1.ext E13
    have Ef15 := E1.ext E13
    have Z13 : n0 ≤ h13.size := Nat.le_trans Z0 E13.1
    have Kp16 : Keep h0 h13 [] := (Keep.refl h0 []).ext E13
    have V13 : own_Ar Z h13 b13 .long n2 (fun _ => (.long (0 : Int64))) := own_Ar.new A13 hp2
    have ac17 : ∀ t, Steps p.tables e below (T13.setTop (mkF m 17 #[.val (.ref a1), .val (.int p2), .unset] [(.ref b13)])) t → Steps p.tables e below (s₁.setTop (entryFrame m #[(.ref a1), (.int p2)] 3)) t := fun t k => ac12 t (st13 t k)
    have ac18 : ∀ t, Steps p.tables e below (T13.setTop (mkF m 23 #[.val (.ref a1), .val (.int p2), .val (.ref b13)] [(.ref a1), (.int (0 : Int32)), (.ref b13), (.int (0 : Int32)), (.ref a1)])) t → Steps p.tables e below (s₁.setTop (entryFrame m #[(.ref a1), (.int p2)] 3)) t := fun t k => ac17 t (by
        show Steps p.tables e below (T13.setTop (mkF m 17 #[.val (.ref a1), .val (.int p2), .unset] [(.ref b13)])) _
        refine XS.astoreN X13.here hx rfl (hb hby d6_17) rfl rfl (l' := #[.val (.ref a1), .val (.int p2), .val (.ref b13)]) rfl ?_
        show Steps p.tables e below (T13.setTop (mkF m 18 #[.val (.ref a1), .val (.int p2), .val (.ref b13)] [])) _
        refine XS.aloadN X13.here hx rfl (hb hby d6_18) rfl rfl ?_
        show Steps p.tables e below (T13.setTop (mkF m 19 #[.val (.ref a1), .val (.int p2), .val (.ref b13)] [(.ref a1)])) _
        refine XS.iconst X13.here hx rfl (hb hby d6_19) ?_
        show Steps p.tables e below (T13.setTop (mkF m 20 #[.val (.ref a1), .val (.int p2), .val (.ref b13)] [(.int (0 : Int32)), (.ref a1)])) _
        refine XS.aloadN X13.here hx rfl (hb hby d6_20) rfl rfl ?_
        show Steps p.tables e below (T13.setTop (mkF m 21 #[.val (.ref a1), .val (.int p2), .val (.ref b13)] [(.ref b13), (.int (0 : Int32)), (.ref a1)])) _
        refine XS.iconst X13.here hx rfl (hb hby d6_21) ?_
        show Steps p.tables e below (T13.setTop (mkF m 22 #[.val (.ref a1), .val (.int p2), .val (.ref b13)] [(.int (0 : Int32)), (.ref b13), (.int (0 : Int32)), (.ref a1)])) _
        refine XS.aloadN X13.here hx rfl (hb hby d6_22) rfl rfl ?_
        exact k)
    obtain ⟨cl19, Ac19, hl19, hb19⟩ := Vf14.len
    have ac20 : ∀ t, Steps p.tables e below (T13.setTop (mkF m 25 #[.val (.ref a1), .val (.int p2), .val (.ref b13)] [(.int p2), (.int (Int32.ofNat n1)), (.int (0 : Int32)), (.ref b13), (.int (0 : Int32)), (.ref a1)])) t → Steps p.tables e below (s₁.setTop (entryFrame m #[(.ref a1), (.int p2)] 3)) t := fun t k => ac18 t (by
        show Steps p.tables e below (T13.setTop (mkF m 23 #[.val (.ref a1), .val (.int p2), .val (.ref b13)] [(.ref a1), (.int (0 : Int32)), (.ref b13), (.int (0 : Int32)), (.ref a1)])) _
        refine X13.arraylength hx (by rw [e13]; exact Ac19.1) (State.isArrayOf_alike hZ.alike Ac19.2.1) (g := (mkF m 23 #[.val (.ref a1), .val (.int p2), .val (.ref b13)] [(.ref a1), (.int (0 : Int32)), (.ref b13), (.int (0 : Int32)), (.ref a1)])) rfl rfl (hb hby d6_23) _ ?_
        rw [hl19]
        show Steps p.tables e below (T13.setTop (mkF m 24 #[.val (.ref a1), .val (.int p2), .val (.ref b13)] [(.int (Int32.ofNat n1)), (.int (0 : Int32)), (.ref b13), (.int (0 : Int32)), (.ref a1)])) _
        refine XS.iloadN X13.here hx rfl (hb hby d6_24) rfl ?_
        exact k)
    obtain ⟨_, _, ⟨T21, L21, k21, n21⟩, -, X21, ⟨Lc21, hQ21, l21, y21, z21⟩, st21⟩ := Jvm.LawKit.callS X13 hx (y := (⟨"java/lang/Math", "min", "(II)I"⟩ : MethodName)) hown (mvT hZ (hw _ (List.mem_of_getElem? (i := 60) rfl))) (mvT hZ (hw _ (List.mem_of_getElem? (i := 61) rfl))) (mvT hZ (hw _ (List.mem_of_getElem? (i := 28) rfl))) (mvT hZ (hw _ (List.mem_of_getElem? (i := 62) rfl))) (by decide) (backOf (W := 4) (rm10 l Z a0 hw [] (Int32.ofNat n1) p2  h13 n0 Z13 ) hZ (hw _ (List.mem_of_getElem? (i := 62) rfl)) (hw _ (List.mem_of_getElem? (i := 28) rfl)) (by decide) (by decide)) (g := (mkF m 25 #[.val (.ref a1), .val (.int p2), .val (.ref b13)] [(.int p2), (.int (Int32.ofNat n1)), (.int (0 : Int32)), (.ref b13), (.int (0 : Int32)), (.ref a1)])) rfl (by rw [hml]; rfl) (argsL := [(.int (Int32.ofNat n1)), (.int p2)]) (rest := [(.int (0 : Int32)), (.ref b13), (.int (0 : Int32)), (.ref a1)]) (lenOf pd_7 rfl) rfl (by show 2 * 0 + _ ≤ _; exact Nat.le_of_eq rfl) (hb hby d6_25) (fun _ _ => ⟨rfl, e13, (by decide : 1 + 0 ≤ _), (by decide : 1024 + 0 ≤ _)⟩)
    dsimp only [Pt.U, Pt.locs, Pt.cells, Pt.slots] at X21 l21 y21 z21 st21 hQ21
    subst l21 y21 z21
    obtain ⟨rfl, N21q, Qe21⟩ := hQ21
    have N21 := Fr.app N0 N21q
    have ac22 : ∀ t, Steps p.tables e below (T21.setTop (mkF m 28 #[.val (.ref a1), .val (.int p2), .val (.ref b13)] [(.int (own_min (Int32.ofNat n1) p2)), (.int (0 : Int32)), (.ref b13), (.int (0 : Int32)), (.ref a1)])) t → Steps p.tables e below (s₁.setTop (entryFrame m #[(.ref a1), (.int p2)] 3)) t := fun t k => ac20 t (st21 t k)
    have hmin23 : (own_min (Int32.ofNat n1) p2).toInt = n1 := by rw [own_min_f (own_nlt_of (by omega))]; exact hn1
    obtain ⟨T23, h23, Lc23, X23, e23, N23, K23q, V23, st23⟩ := own_cp X21 hx hZ hown (hw _ (List.mem_of_getElem? (i := 63) rfl)) (hw _ (List.mem_of_getElem? (i := 66) rfl)) (hw _ (List.mem_of_getElem? (i := 64) rfl)) (hw _ (List.mem_of_getElem? (i := 65) rfl)) Qe21 Vf14 V13 rfl (k := n1) (Nat.le_refl _) (Nat.le_of_lt hnn) hmin23 N21 g_b13 (g := (mkF m 28 #[.val (.ref a1), .val (.int p2), .val (.ref b13)] [(.int (own_min (Int32.ofNat n1) p2)), (.int (0 : Int32)), (.ref b13), (.int (0 : Int32)), (.ref a1)])) rfl (by rw [hml]; rfl) rfl (hb hby d6_28) (by decide) (W := 0) (by show 2 * 0 + _ ≤ _; exact Nat.le_of_eq rfl) (by decide)
    have Vf24 := Vf14.keep K23q (ninS ne_a1_b13 nin0)
    have Ef25 := Ef15.keep K23q
    have Ef26 := Ea13.keep K23q
    have Z23 : n0 ≤ h23.size := Nat.le_trans Z13 K23q.1
    have Kp27 : Keep h0 h23 [] := Kp16.trans K23q (allS (Or.inr sz_b13) all0)
    have ac28 : ∀ t, Steps p.tables e below (T23.setTop (mkF m 31 #[.val (.ref a1), .val (.int p2), .val (.ref b13)] [])) t → Steps p.tables e below (s₁.setTop (entryFrame m #[(.ref a1), (.int p2)] 3)) t := fun t k => ac22 t (st23 t k)
    have ac29 : ∀ t, Steps p.tables e below (T23.setTop (mkF m 32 #[.val (.ref a1), .val (.int p2), .val (.ref b13)] [(.ref b13)])) t → Steps p.tables e below (s₁.setTop (entryFrame m #[(.ref a1), (.int p2)] 3)) t := fun t k => ac28 t (by
        show Steps p.tables e below (T23.setTop (mkF m 31 #[.val (.ref a1), .val (.int p2), .val (.ref b13)] [])) _
        refine XS.aloadN X23.here hx rfl (hb hby d6_31) rfl rfl ?_
        exact k)
    obtain ⟨fs, hr, hrun, hended, hW, hsame⟩ := X23.leave (v := some (.ref b13)) (fun h => by rw [Bd.returns] at h; cases h) (BodyLoose.notSynchronized Bd)
    refine ⟨_, _, ac29 _ ?_, hrun, hended, _, _, rfl, ?_, ⟨_, rfl⟩, hW, hsame.mono (by decide) (by decide)⟩
    · show Steps p.tables e below (T23.setTop (mkF m 32 #[.val (.ref a1), .val (.int p2), .val (.ref b13)] [(.ref b13)])) _
      exact retOut X23 hx Bd.returns rfl (Or.inr (Or.inr (Or.inr (Or.inr ⟨rfl, rfl, rfl⟩)))) (hb hby d6_32) hr
    · show Q6 Z a1 p2 n1 n2 f h0 n0 _ T23.heap _
      rw [e23]
      exact ⟨b13, rfl, N23, Kp27, sz_b13, V23, Ef26⟩
theorem ef_rm6u (m : MethodId) (x0 : Addr) (x1 : Int32) : entryFrame m #[(.ref x0), (.int x1)] 3 = mkF m 0 #[.val (.ref x0), .val (.int x1), .unset] [] := by first | (simp [entryFrame, mkF, argsToLocals, Value.category]; done) | rfl
def Q6u (Z : State) (a1 : Addr) (p2 : Int32) (n1 : Nat) (n2 : Nat) (f : Nat → Value) (h0 : Heap) (n0 : Nat) (v : Option Value) (h : Heap) (L : List Loc) : Prop := ∃ r : Addr, v = some (.ref r) ∧ Fr n0 L ∧ Keep h0 h [] ∧ h0.size ≤ r ∧ own_Ar Z h r .long n2 (fun i => if i < n1 then f i else (.long (0 : Int64))) ∧ Exa Z h r "[J"
set_option maxRecDepth 65536 in
set_option maxHeartbeats 40000000 in
theorem rm6u (l : Launch) (Z : State) (a0 : Array Value) (hw : ∀ d ∈ tables_1, d.before a0 Z = true) (ws : List Jvm.Cond) (a1 : Addr) (p2 : Int32) (n1 : Nat) (n2 : Nat) (f : Nat → Value) (h0 : Heap) (n0 : Nat) (Z0 : n0 ≤ h0.size) (V1 : own_Ar Z h0 a1 .long n1 f) (E1 : Exa Z h0 a1 "[J") (hp2 : p2.toInt = n2) (h12 : n1 ≤ n2) (hcap : n2 ≤ 16) :
    MetFree l (⟨"java/util/Arrays", "copyOf", "([JI)[J"⟩ : MethodName) (head1 (Jvm.Cond.code (⟨"java/util/Arrays", "copyOf", "([JI)[J"⟩ : MethodName) jdk_65_method_124_code 3 (some (.array .long)) :: ws) ({ frames := 1, cells := 1, slots := 16, locals := 18 } : Room)) (fun a U => a = #[(.ref a1), (.int p2)] ∧ Z.Warmed39 U.vm ∧ U.heap = h0) (fun _ _ _ _ _ => True) (fun _ U o U' => ∃ v L, o = .returned v ∧ Q6u Z a1 p2 n1 n2 f h0 n0 v U'.heap L ∧ FrameEnd U o U' L ({ frames := 1, cells := 1, slots := 16, locals := 18 } : Room).cells ({ frames := 1, cells := 1, slots := 16, locals := 18 } : Room).slots) := by
  refine MetFree.of_bodySF (plainFor_of_name pn_6) hisR ?_
  intro p e s m args below meth c s₁ Bd hml0 hP hK
  obtain ⟨rfl, hZ, hh⟩ := hP
  have hx := Bd.exec
  have hby := Bd.bytes
  have hml : c.maxLocals = 3 := hml0
  have hown : s.vm.findClass "java/util/Arrays" = some m.cls := findClass_of_methodNamed Bd.named
  have hnm := (name_of_methodNamed Bd.named Bd.method).1
  have X0 : Stand p l e ({ frames := 1, cells := 1, slots := 16, locals := 18 } : Room) s m #[(.ref a1), (.int p2)] below meth c s₁ [] 0 0 := Stand.of_body Bd
  have e0 : s₁.heap = h0 := by rw [← hh, Bd.state]; rfl
  have N0 := Fr.nil n0
  have a0s : ∀ t, Steps p.tables e below (s₁.setTop (mkF m 0 #[.val (.ref a1), .val (.int p2), .unset] [])) t → Steps p.tables e below (s₁.setTop (entryFrame m #[(.ref a1), (.int p2)] 3)) t := fun t k => castTop (ef_rm6u m a1 p2) k
  have ac1 : ∀ t, Steps p.tables e below (s₁.setTop (mkF m 2 #[.val (.ref a1), .val (.int p2), .unset] [(.ref a1), (.int p2)])) t → Steps p.tables e below (s₁.setTop (entryFrame m #[(.ref a1), (.int p2)] 3)) t := fun t k => a0s t (by
      show Steps p.tables e below (s₁.setTop (mkF m 0 #[.val (.ref a1), .val (.int p2), .unset] [])) _
      refine XS.iloadN X0.here hx rfl (hb hby d6_0) rfl ?_
      show Steps p.tables e below (s₁.setTop (mkF m 1 #[.val (.ref a1), .val (.int p2), .unset] [(.int p2)])) _
      refine XS.aloadN X0.here hx rfl (hb hby d6_1) rfl rfl ?_
      exact k)
  obtain ⟨cl2, Ac2, hl2, hb2⟩ := V1.len
  have hn1 := own_ofNat hb2
  have ac3 : ∀ t, Steps p.tables e below (s₁.setTop (mkF m 3 #[.val (.ref a1), .val (.int p2), .unset] [(.int (Int32.ofNat n1)), (.int p2)])) t → Steps p.tables e below (s₁.setTop (entryFrame m #[(.ref a1), (.int p2)] 3)) t := fun t k => ac1 t (by
      show Steps p.tables e below (s₁.setTop (mkF m 2 #[.val (.ref a1), .val (.int p2), .unset] [(.ref a1), (.int p2)])) _
      refine X0.arraylength hx (by rw [e0]; exact Ac2.1) (State.isArrayOf_alike hZ.alike Ac2.2.1) (g := (mkF m 2 #[.val (.ref a1), .val (.int p2), .unset] [(.ref a1), (.int p2)])) rfl rfl (hb hby d6_2) _ ?_
      rw [hl2]
      exact k)
  by_cases he : p2 = (Int32.ofNat n1)
  ·
    have hnn : n1 = n2 := by rw [he] at hp2; omega
    have ac4 : ∀ t, Steps p.tables e below (s₁.setTop (mkF m 7 #[.val (.ref a1), .val (.int p2), .unset] [(.ref a1)])) t → Steps p.tables e below (s₁.setTop (entryFrame m #[(.ref a1), (.int p2)] 3)) t := fun t k => ac3 t (by
        show Steps p.tables e below (s₁.setTop (mkF m 3 #[.val (.ref a1), .val (.int p2), .unset] [(.int (Int32.ofNat n1)), (.int p2)])) _
        refine XS.icmpNo X0.here hx rfl (hb hby d6_3) rfl (teq he).2 ?_
        show Steps p.tables e below (s₁.setTop (mkF m 6 #[.val (.ref a1), .val (.int p2), .unset] [])) _
        refine XS.aloadN X0.here hx rfl (hb hby d6_6) rfl rfl ?_
        exact k)
    obtain ⟨T5, h5, X5, e5, E5, V5, Ea5, st5⟩ := own_clone X0 hx hZ hown (hw _ (List.mem_of_getElem? (i := 37) rfl)) (hw _ (List.mem_of_getElem? (i := 38) rfl)) (hw _ (List.mem_of_getElem? (i := 42) rfl)) (hw _ (List.mem_of_getElem? (i := 40) rfl)) (hw _ (List.mem_of_getElem? (i := 41) rfl)) (hw _ (List.mem_of_getElem? (i := 43) rfl)) e0 V1 E1 (g := (mkF m 7 #[.val (.ref a1), .val (.int p2), .unset] [(.ref a1)])) rfl (by rw [hml]; rfl) rfl (hb hby d6_7) (by decide) (W := 0) (cap := 16) (by show 2 * 0 + _ ≤ _; exact Nat.le_of_eq rfl) (by decide) (by omega) (by decide) (by decide)
    obtain ⟨b5, g5⟩ : ∃ z, z = h0.size := ⟨_, rfl⟩
    rw [← g5] at V5 Ea5 st5
    have g_b5 : n0 ≤ b5 := Nat.le_trans Z0 (Nat.le_of_eq g5.symm)
    have sz_b5 : h0.size ≤ b5 := Nat.le_trans (Keep.refl h0 []).1 (Nat.le_of_eq g5.symm)
    have ne_a1_b5 : a1 ≠ b5 := Nat.ne_of_lt (Nat.lt_of_lt_of_le V1.lt (Nat.le_of_eq g5.symm))
    have Vf6 := V1.ext E5
    have Ef7 := E1.ext E5
    have Z5 : n0 ≤ h5.size := Nat.le_trans Z0 E5.1
    have Kp8 : Keep h0 h5 [] := (Keep.refl h0 []).ext E5
    have ac9 : ∀ t, Steps p.tables e below (T5.setTop (mkF m 10 #[.val (.ref a1), .val (.int p2), .unset] [(.ref b5)])) t → Steps p.tables e below (s₁.setTop (entryFrame m #[(.ref a1), (.int p2)] 3)) t := fun t k => ac4 t (st5 t k)
    obtain ⟨T10, X10, e10, st10⟩ := castY X5 hx hZ hown (hw _ (List.mem_of_getElem? (i := 44) rfl)) e5 (Ins.self Ea5) (g := (mkF m 10 #[.val (.ref a1), .val (.int p2), .unset] [(.ref b5)])) rfl rfl (hb hby d6_10)
    have ac11 : ∀ t, Steps p.tables e below (T10.setTop (mkF m 13 #[.val (.ref a1), .val (.int p2), .unset] [(.ref b5)])) t → Steps p.tables e below (s₁.setTop (entryFrame m #[(.ref a1), (.int p2)] 3)) t := fun t k => ac9 t (st10 t k)
    obtain ⟨fs, hr, hrun, hended, hW, hsame⟩ := X10.leave (v := some (.ref b5)) (fun h => by rw [Bd.returns] at h; cases h) (BodyLoose.notSynchronized Bd)
    refine ⟨_, _, ac11 _ ?_, hrun, hended, _, _, rfl, ?_, ⟨_, rfl⟩, hW, hsame.mono (by decide) (by decide)⟩
    · show Steps p.tables e below (T10.setTop (mkF m 13 #[.val (.ref a1), .val (.int p2), .unset] [(.ref b5)])) _
      exact retOut X10 hx Bd.returns rfl (Or.inr (Or.inr (Or.inr (Or.inr ⟨rfl, rfl, rfl⟩)))) (hb hby d6_13) hr
    · show Q6u Z a1 p2 n1 n2 f h0 n0 _ T10.heap _
      rw [e10]
      exact ⟨b5, rfl, N0, Kp8, sz_b5, ((V5.size hnn).eq (fun i hi => (if_pos (by omega)).symm)), Ea5⟩
  ·
    have hnn : n1 < n2 := Nat.lt_of_le_of_ne h12 (fun q => he (own_eq_of (by omega)))
    have ac12 : ∀ t, Steps p.tables e below (s₁.setTop (mkF m 15 #[.val (.ref a1), .val (.int p2), .unset] [(.int p2)])) t → Steps p.tables e below (s₁.setTop (entryFrame m #[(.ref a1), (.int p2)] 3)) t := fun t k => ac3 t (by
        show Steps p.tables e below (s₁.setTop (mkF m 3 #[.val (.ref a1), .val (.int p2), .unset] [(.int (Int32.ofNat n1)), (.int p2)])) _
        refine XS.icmpYes X0.here hx rfl (pc0 := 3) (pc' := 14) rfl (hb hby d6_3) rfl (feq he).2 (by decide) (by decide) ?_
        show Steps p.tables e below (s₁.setTop (mkF m 14 #[.val (.ref a1), .val (.int p2), .unset] [])) _
        refine XS.iloadN X0.here hx rfl (hb hby d6_14) rfl ?_
        exact k)
    obtain ⟨T13, h13, k13, X13, e13, E13, A13, Ea13, st13⟩ := newPE X0 hx hZ (hw _ (List.mem_of_getElem? (i := 9) rfl)) e0 (g := (mkF m 15 #[.val (.ref a1), .val (.int p2), .unset] [(.int p2)])) rfl (hb hby d6_15) rfl (own_lt0 (by omega)) (cap := 16) (by have := own_nat (j := p2) (by omega); omega) (by decide) (by decide) (by decide) (ad := "[J") (by decide)
    obtain ⟨b13, g13⟩ : ∃ z, z = h0.size := ⟨_, rfl⟩
    rw [← g13] at A13 st13 Ea13
    have g_b13 : n0 ≤ b13 := Nat.le_trans Z0 (Nat.le_of_eq g13.symm)
    have sz_b13 : h0.size ≤ b13 := Nat.le_trans (Keep.refl h0 []).1 (Nat.le_of_eq g13.symm)
    have ne_a1_b13 : a1 ≠ b13 := Nat.ne_of_lt (Nat.lt_of_lt_of_le V1.lt (Nat.le_of_eq g13.symm))
    have Vf14 := V1.ext E13
    have Ef15 := E1.ext E13
    have Z13 : n0 ≤ h13.size := Nat.le_trans Z0 E13.1
    have Kp16 : Keep h0 h13 [] := (Keep.refl h0 []).ext E13
    have V13 : own_Ar Z h13 b13 .long n2 (fun _ => (.long (0 : Int64))) := own_Ar.new A13 hp2
    have ac17 : ∀ t, Steps p.tables e below (T13.setTop (mkF m 17 #[.val (.ref a1), .val (.int p2), .unset] [(.ref b13)])) t → Steps p.tables e below (s₁.setTop (entryFrame m #[(.ref a1), (.int p2)] 3)) t := fun t k => ac12 t (st13 t k)
    have ac18 : ∀ t, Steps p.tables e below (T13.setTop (mkF m 23 #[.val (.ref a1), .val (.int p2), .val (.ref b13)] [(.ref a1), (.int (0 : Int32)), (.ref b13), (.int (0 : Int32)), (.ref a1)])) t → Steps p.tables e below (s₁.setTop (entryFrame m #[(.ref a1), (.int p2)] 3)) t := fun t k => ac17 t (by
        show Steps p.tables e below (T13.setTop (mkF m 17 #[.val (.ref a1), .val (.int p2), .unset] [(.ref b13)])) _
        refine XS.astoreN X13.here hx rfl (hb hby d6_17) rfl rfl (l' := #[.val (.ref a1), .val (.int p2), .val (.ref b13)]) rfl ?_
        show Steps p.tables e below (T13.setTop (mkF m 18 #[.val (.ref a1), .val (.int p2), .val (.ref b13)] [])) _
        refine XS.aloadN X13.here hx rfl (hb hby d6_18) rfl rfl ?_
        show Steps p.tables e below (T13.setTop (mkF m 19 #[.val (.ref a1), .val (.int p2), .val (.ref b13)] [(.ref a1)])) _
        refine XS.iconst X13.here hx rfl (hb hby d6_19) ?_
        show Steps p.tables e below (T13.setTop (mkF m 20 #[.val (.ref a1), .val (.int p2), .val (.ref b13)] [(.int (0 : Int32)), (.ref a1)])) _
        refine XS.aloadN X13.here hx rfl (hb hby d6_20) rfl rfl ?_
        show Steps p.tables e below (T13.setTop (mkF m 21 #[.val (.ref a1), .val (.int p2), .val (.ref b13)] [(.ref b13), (.int (0 : Int32)), (.ref a1)])) _
        refine XS.iconst X13.here hx rfl (hb hby d6_21) ?_
        show Steps p.tables e below (T13.setTop (mkF m 22 #[.val (.ref a1), .val (.int p2), .val (.ref b13)] [(.int (0 : Int32)), (.ref b13), (.int (0 : Int32)), (.ref a1)])) _
        refine XS.aloadN X13.here hx rfl (hb hby d6_22) rfl rfl ?_
        exact k)
    obtain ⟨cl19, Ac19, hl19, hb19⟩ := Vf14.len
    have ac20 : ∀ t, Steps p.tables e below (T13.setTop (mkF m 25 #[.val (.ref a1), .val (.int p2), .val (.ref b13)] [(.int p2), (.int (Int32.ofNat n1)), (.int (0 : Int32)), (.ref b13), (.int (0 : Int32)), (.ref a1)])) t → Steps p.tables e below (s₁.setTop (entryFrame m #[(.ref a1), (.int p2)] 3)) t := fun t k => ac18 t (by
        show Steps p.tables e below (T13.setTop (mkF m 23 #[.val (.ref a1), .val (.int p2), .val (.ref b13)] [(.ref a1), (.int (0 : Int32)), (.ref b13), (.int (0 : Int32)), (.ref a1)])) _
        refine X13.arraylength hx (by rw [e13]; exact Ac19.1) (State.isArrayOf_alike hZ.alike Ac19.2.1) (g := (mkF m 23 #[.val (.ref a1), .val (.int p2), .val (.ref b13)] [(.ref a1), (.int (0 : Int32)), (.ref b13), (.int (0 : Int32)), (.ref a1)])) rfl rfl (hb hby d6_23) _ ?_
        rw [hl19]
        show Steps p.tables e below (T13.setTop (mkF m 24 #[.val (.ref a1), .val (.int p2), .val (.ref b13)] [(.int (Int32.ofNat n1)), (.int (0 : Int32)), (.ref b13), (.int (0 : Int32)), (.ref a1)])) _
        refine XS.iloadN X13.here hx rfl (hb hby d6_24) rfl ?_
        exact k)
    obtain ⟨_, _, ⟨T21, L21, k21, n21⟩, -, X21, ⟨Lc21, hQ21, l21, y21, z21⟩, st21⟩ := Jvm.LawKit.callS X13 hx (y := (⟨"java/lang/Math", "min", "(II)I"⟩ : MethodName)) hown (mvT hZ (hw _ (List.mem_of_getElem? (i := 60) rfl))) (mvT hZ (hw _ (List.mem_of_getElem? (i := 61) rfl))) (mvT hZ (hw _ (List.mem_of_getElem? (i := 28) rfl))) (mvT hZ (hw _ (List.mem_of_getElem? (i := 62) rfl))) (by decide) (backOf (W := 4) (rm10 l Z a0 hw [] (Int32.ofNat n1) p2  h13 n0 Z13 ) hZ (hw _ (List.mem_of_getElem? (i := 62) rfl)) (hw _ (List.mem_of_getElem? (i := 28) rfl)) (by decide) (by decide)) (g := (mkF m 25 #[.val (.ref a1), .val (.int p2), .val (.ref b13)] [(.int p2), (.int (Int32.ofNat n1)), (.int (0 : Int32)), (.ref b13), (.int (0 : Int32)), (.ref a1)])) rfl (by rw [hml]; rfl) (argsL := [(.int (Int32.ofNat n1)), (.int p2)]) (rest := [(.int (0 : Int32)), (.ref b13), (.int (0 : Int32)), (.ref a1)]) (lenOf pd_7 rfl) rfl (by show 2 * 0 + _ ≤ _; exact Nat.le_of_eq rfl) (hb hby d6_25) (fun _ _ => ⟨rfl, e13, (by decide : 1 + 0 ≤ _), (by decide : 16 + 0 ≤ _)⟩)
    dsimp only [Pt.U, Pt.locs, Pt.cells, Pt.slots] at X21 l21 y21 z21 st21 hQ21
    subst l21 y21 z21
    obtain ⟨rfl, N21q, Qe21⟩ := hQ21
    have N21 := Fr.app N0 N21q
    have ac22 : ∀ t, Steps p.tables e below (T21.setTop (mkF m 28 #[.val (.ref a1), .val (.int p2), .val (.ref b13)] [(.int (own_min (Int32.ofNat n1) p2)), (.int (0 : Int32)), (.ref b13), (.int (0 : Int32)), (.ref a1)])) t → Steps p.tables e below (s₁.setTop (entryFrame m #[(.ref a1), (.int p2)] 3)) t := fun t k => ac20 t (st21 t k)
    have hmin23 : (own_min (Int32.ofNat n1) p2).toInt = n1 := by rw [own_min_f (own_nlt_of (by omega))]; exact hn1
    obtain ⟨T23, h23, Lc23, X23, e23, N23, K23q, V23, st23⟩ := own_cp X21 hx hZ hown (hw _ (List.mem_of_getElem? (i := 63) rfl)) (hw _ (List.mem_of_getElem? (i := 66) rfl)) (hw _ (List.mem_of_getElem? (i := 64) rfl)) (hw _ (List.mem_of_getElem? (i := 65) rfl)) Qe21 Vf14 V13 rfl (k := n1) (Nat.le_refl _) (Nat.le_of_lt hnn) hmin23 N21 g_b13 (g := (mkF m 28 #[.val (.ref a1), .val (.int p2), .val (.ref b13)] [(.int (own_min (Int32.ofNat n1) p2)), (.int (0 : Int32)), (.ref b13), (.int (0 : Int32)), (.ref a1)])) rfl (by rw [hml]; rfl) rfl (hb hby d6_28) (by decide) (W := 0) (by show 2 * 0 + _ ≤ _; exact Nat.le_of_eq rfl) (by decide)
    have Vf24 := Vf14.keep K23q (ninS ne_a1_b13 nin0)
    have Ef25 := Ef15.keep K23q
    have Ef26 := Ea13.keep K23q
    have Z23 : n0 ≤ h23.size := Nat.le_trans Z13 K23q.1
    have Kp27 : Keep h0 h23 [] := Kp16.trans K23q (allS (Or.inr sz_b13) all0)
    have ac28 : ∀ t, Steps p.tables e below (T23.setTop (mkF m 31 #[.val (.ref a1), .val (.int p2), .val (.ref b13)] [])) t → Steps p.tables e below (s₁.setTop (entryFrame m #[(.ref a1), (.int p2)] 3)) t := fun t k => ac22 t (st23 t k)
    have ac29 : ∀ t, Steps p.tables e below (T23.setTop (mkF m 32 #[.val (.ref a1), .val (.int p2), .val (.ref b13)] [(.ref b13)])) t → Steps p.tables e below (s₁.setTop (entryFrame m #[(.ref a1), (.int p2)] 3)) t := fun t k => ac28 t (by
        show Steps p.tables e below (T23.setTop (mkF m 31 #[.val (.ref a1), .val (.int p2), .val (.ref b13)] [])) _
        refine XS.aloadN X23.here hx rfl (hb hby d6_31) rfl rfl ?_
        exact k)
    obtain ⟨fs, hr, hrun, hended, hW, hsame⟩ := X23.leave (v := some (.ref b13)) (fun h => by rw [Bd.returns] at h; cases h) (BodyLoose.notSynchronized Bd)
    refine ⟨_, _, ac29 _ ?_, hrun, hended, _, _, rfl, ?_, ⟨_, rfl⟩, hW, hsame.mono (by decide) (by decide)⟩
    · show Steps p.tables e below (T23.setTop (mkF m 32 #[.val (.ref a1), .val (.int p2), .val (.ref b13)] [(.ref b13)])) _
      exact retOut X23 hx Bd.returns rfl (Or.inr (Or.inr (Or.inr (Or.inr ⟨rfl, rfl, rfl⟩)))) (hb hby d6_32) hr
    · show Q6u Z a1 p2 n1 n2 f h0 n0 _ T23.heap _
      rw [e23]
      exact ⟨b13, rfl, N23, Kp27, sz_b13, V23, Ef26⟩
theorem ef_rm6f (m : MethodId) (x0 : Addr) (x1 : Int32) : entryFrame m #[(.ref x0), (.int x1)] 3 = mkF m 0 #[.val (.ref x0), .val (.int x1), .unset] [] := by first | (simp [entryFrame, mkF, argsToLocals, Value.category]; done) | rfl
def Q6f (Z : State) (a1 : Addr) (p2 : Int32) (n1 : Nat) (n2 : Nat) (f : Nat → Value) (h0 : Heap) (n0 : Nat) (v : Option Value) (h : Heap) (L : List Loc) : Prop := ∃ r : Addr, v = some (.ref r) ∧ Fr n0 L ∧ Keep h0 h [] ∧ h0.size ≤ r ∧ own_Ar Z h r .long n2 (fun i => if i < n1 then f i else (.long (0 : Int64))) ∧ Exa Z h r "[J"
set_option maxRecDepth 65536 in
set_option maxHeartbeats 40000000 in
theorem rm6f (l : Launch) (Z : State) (a0 : Array Value) (hw : ∀ d ∈ tables_1, d.before a0 Z = true) (ws : List Jvm.Cond) (a1 : Addr) (p2 : Int32) (n1 : Nat) (n2 : Nat) (f : Nat → Value) (h0 : Heap) (n0 : Nat) (Z0 : n0 ≤ h0.size) (V1 : own_Ar Z h0 a1 .long n1 f) (E1 : Exa Z h0 a1 "[J") (hp2 : p2.toInt = n2) (h12 : n1 ≤ n2) (hcap : n2 ≤ 1) :
    MetFree l (⟨"java/util/Arrays", "copyOf", "([JI)[J"⟩ : MethodName) (head1 (Jvm.Cond.code (⟨"java/util/Arrays", "copyOf", "([JI)[J"⟩ : MethodName) jdk_65_method_124_code 3 (some (.array .long)) :: ws) ({ frames := 1, cells := 1, slots := 1, locals := 18 } : Room)) (fun a U => a = #[(.ref a1), (.int p2)] ∧ Z.Warmed39 U.vm ∧ U.heap = h0) (fun _ _ _ _ _ => True) (fun _ U o U' => ∃ v L, o = .returned v ∧ Q6f Z a1 p2 n1 n2 f h0 n0 v U'.heap L ∧ FrameEnd U o U' L ({ frames := 1, cells := 1, slots := 1, locals := 18 } : Room).cells ({ frames := 1, cells := 1, slots := 1, locals := 18 } : Room).slots) := by
  refine MetFree.of_bodySF (plainFor_of_name pn_6) hisR ?_
  intro p e s m args below meth c s₁ Bd hml0 hP hK
  obtain ⟨rfl, hZ, hh⟩ := hP
  have hx := Bd.exec
  have hby := Bd.bytes
  have hml : c.maxLocals = 3 := hml0
  have hown : s.vm.findClass "java/util/Arrays" = some m.cls := findClass_of_methodNamed Bd.named
  have hnm := (name_of_methodNamed Bd.named Bd.method).1
  have X0 : Stand p l e ({ frames := 1, cells := 1, slots := 1, locals := 18 } : Room) s m #[(.ref a1), (.int p2)] below meth c s₁ [] 0 0 := Stand.of_body Bd
  have e0 : s₁.heap = h0 := by rw [← hh, Bd.state]; rfl
  have N0 := Fr.nil n0
  have a0s : ∀ t, Steps p.tables e below (s₁.setTop (mkF m 0 #[.val (.ref a1), .val (.int p2), .unset] [])) t → Steps p.tables e below (s₁.setTop (entryFrame m #[(.ref a1), (.int p2)] 3)) t := fun t k => castTop (ef_rm6f m a1 p2) k
  have ac1 : ∀ t, Steps p.tables e below (s₁.setTop (mkF m 2 #[.val (.ref a1), .val (.int p2), .unset] [(.ref a1), (.int p2)])) t → Steps p.tables e below (s₁.setTop (entryFrame m #[(.ref a1), (.int p2)] 3)) t := fun t k => a0s t (by
      show Steps p.tables e below (s₁.setTop (mkF m 0 #[.val (.ref a1), .val (.int p2), .unset] [])) _
      refine XS.iloadN X0.here hx rfl (hb hby d6_0) rfl ?_
      show Steps p.tables e below (s₁.setTop (mkF m 1 #[.val (.ref a1), .val (.int p2), .unset] [(.int p2)])) _
      refine XS.aloadN X0.here hx rfl (hb hby d6_1) rfl rfl ?_
      exact k)
  obtain ⟨cl2, Ac2, hl2, hb2⟩ := V1.len
  have hn1 := own_ofNat hb2
  have ac3 : ∀ t, Steps p.tables e below (s₁.setTop (mkF m 3 #[.val (.ref a1), .val (.int p2), .unset] [(.int (Int32.ofNat n1)), (.int p2)])) t → Steps p.tables e below (s₁.setTop (entryFrame m #[(.ref a1), (.int p2)] 3)) t := fun t k => ac1 t (by
      show Steps p.tables e below (s₁.setTop (mkF m 2 #[.val (.ref a1), .val (.int p2), .unset] [(.ref a1), (.int p2)])) _
      refine X0.arraylength hx (by rw [e0]; exact Ac2.1) (State.isArrayOf_alike hZ.alike Ac2.2.1) (g := (mkF m 2 #[.val (.ref a1), .val (.int p2), .unset] [(.ref a1), (.int p2)])) rfl rfl (hb hby d6_2) _ ?_
      rw [hl2]
      exact k)
  by_cases he : p2 = (Int32.ofNat n1)
  ·
    have hnn : n1 = n2 := by rw [he] at hp2; omega
    have ac4 : ∀ t, Steps p.tables e below (s₁.setTop (mkF m 7 #[.val (.ref a1), .val (.int p2), .unset] [(.ref a1)])) t → Steps p.tables e below (s₁.setTop (entryFrame m #[(.ref a1), (.int p2)] 3)) t := fun t k => ac3 t (by
        show Steps p.tables e below (s₁.setTop (mkF m 3 #[.val (.ref a1), .val (.int p2), .unset] [(.int (Int32.ofNat n1)), (.int p2)])) _
        refine XS.icmpNo X0.here hx rfl (hb hby d6_3) rfl (teq he).2 ?_
        show Steps p.tables e below (s₁.setTop (mkF m 6 #[.val (.ref a1), .val (.int p2), .unset] [])) _
        refine XS.aloadN X0.here hx rfl (hb hby d6_6) rfl rfl ?_
        exact k)
    obtain ⟨T5, h5, X5, e5, E5, V5, Ea5, st5⟩ := own_clone X0 hx hZ hown (hw _ (List.mem_of_getElem? (i := 37) rfl)) (hw _ (List.mem_of_getElem? (i := 38) rfl)) (hw _ (List.mem_of_getElem? (i := 42) rfl)) (hw _ (List.mem_of_getElem? (i := 40) rfl)) (hw _ (List.mem_of_getElem? (i := 41) rfl)) (hw _ (List.mem_of_getElem? (i := 43) rfl)) e0 V1 E1 (g := (mkF m 7 #[.val (.ref a1), .val (.int p2), .unset] [(.ref a1)])) rfl (by rw [hml]; rfl) rfl (hb hby d6_7) (by decide) (W := 0) (cap := 1) (by show 2 * 0 + _ ≤ _; exact Nat.le_of_eq rfl) (by decide) (by omega) (by decide) (by decide)
    obtain ⟨b5, g5⟩ : ∃ z, z = h0.size := ⟨_, rfl⟩
    rw [← g5] at V5 Ea5 st5
    have g_b5 : n0 ≤ b5 := Nat.le_trans Z0 (Nat.le_of_eq g5.symm)
    have sz_b5 : h0.size ≤ b5 := Nat.le_trans (Keep.refl h0 []).1 (Nat.le_of_eq g5.symm)
    have ne_a1_b5 : a1 ≠ b5 := Nat.ne_of_lt (Nat.lt_of_lt_of_le V1.lt (Nat.le_of_eq g5.symm))
    have Vf6 := V1.ext E5
    have Ef7 := E1.ext E5
    have Z5 : n0 ≤ h5.size := Nat.le_trans Z0 E5.1
    have Kp8 : Keep h0 h5 [] := (Keep.refl h0 []).ext E5
    have ac9 : ∀ t, Steps p.tables e below (T5.setTop (mkF m 10 #[.val (.ref a1), .val (.int p2), .unset] [(.ref b5)])) t → Steps p.tables e below (s₁.setTop (entryFrame m #[(.ref a1), (.int p2)] 3)) t := fun t k => ac4 t (st5 t k)
    obtain ⟨T10, X10, e10, st10⟩ := castY X5 hx hZ hown (hw _ (List.mem_of_getElem? (i := 44) rfl)) e5 (Ins.self Ea5) (g := (mkF m 10 #[.val (.ref a1), .val (.int p2), .unset] [(.ref b5)])) rfl rfl (hb hby d6_10)
    have ac11 : ∀ t, Steps p.tables e below (T10.setTop (mkF m 13 #[.val (.ref a1), .val (.int p2), .unset] [(.ref b5)])) t → Steps p.tables e below (s₁.setTop (entryFrame m #[(.ref a1), (.int p2)] 3)) t := fun t k => ac9 t (st10 t k)
    obtain ⟨fs, hr, hrun, hended, hW, hsame⟩ := X10.leave (v := some (.ref b5)) (fun h => by rw [Bd.returns] at h; cases h) (BodyLoose.notSynchronized Bd)
    refine ⟨_, _, ac11 _ ?_, hrun, hended, _, _, rfl, ?_, ⟨_, rfl⟩, hW, hsame.mono (by decide) (by decide)⟩
    · show Steps p.tables e below (T10.setTop (mkF m 13 #[.val (.ref a1), .val (.int p2), .unset] [(.ref b5)])) _
      exact retOut X10 hx Bd.returns rfl (Or.inr (Or.inr (Or.inr (Or.inr ⟨rfl, rfl, rfl⟩)))) (hb hby d6_13) hr
    · show Q6f Z a1 p2 n1 n2 f h0 n0 _ T10.heap _
      rw [e10]
      exact ⟨b5, rfl, N0, Kp8, sz_b5, ((V5.size hnn).eq (fun i hi => (if_pos (by omega)).symm)), Ea5⟩
  ·
    have hnn : n1 < n2 := Nat.lt_of_le_of_ne h12 (fun q => he (own_eq_of (by omega)))
    have ac12 : ∀ t, Steps p.tables e below (s₁.setTop (mkF m 15 #[.val (.ref a1), .val (.int p2), .unset] [(.int p2)])) t → Steps p.tables e below (s₁.setTop (entryFrame m #[(.ref a1), (.int p2)] 3)) t := fun t k => ac3 t (by
        show Steps p.tables e below (s₁.setTop (mkF m 3 #[.val (.ref a1), .val (.int p2), .unset] [(.int (Int32.ofNat n1)), (.int p2)])) _
        refine XS.icmpYes X0.here hx rfl (pc0 := 3) (pc' := 14) rfl (hb hby d6_3) rfl (feq he).2 (by decide) (by decide) ?_
        show Steps p.tables e below (s₁.setTop (mkF m 14 #[.val (.ref a1), .val (.int p2), .unset] [])) _
        refine XS.iloadN X0.here hx rfl (hb hby d6_14) rfl ?_
        exact k)
    obtain ⟨T13, h13, k13, X13, e13, E13, A13, Ea13, st13⟩ := newPE X0 hx hZ (hw _ (List.mem_of_getElem? (i := 9) rfl)) e0 (g := (mkF m 15 #[.val (.ref a1), .val (.int p2), .unset] [(.int p2)])) rfl (hb hby d6_15) rfl (own_lt0 (by omega)) (cap := 1) (by have := own_nat (j := p2) (by omega); omega) (by decide) (by decide) (by decide) (ad := "[J") (by decide)
    obtain ⟨b13, g13⟩ : ∃ z, z = h0.size := ⟨_, rfl⟩
    rw [← g13] at A13 st13 Ea13
    have g_b13 : n0 ≤ b13 := Nat.le_trans Z0 (Nat.le_of_eq g13.symm)
    have sz_b13 : h0.size ≤ b13 := Nat.le_trans (Keep.refl h0 []).1 (Nat.le_of_eq g13.symm)
    have ne_a1_b13 : a1 ≠ b13 := Nat.ne_of_lt (Nat.lt_of_lt_of_le V1.lt (Nat.le_of_eq g13.symm))
    have Vf14 := V1.ext E13
    have Ef15 := E1.ext E13
    have Z13 : n0 ≤ h13.size := Nat.le_trans Z0 E13.1
    have Kp16 : Keep h0 h13 [] := (Keep.refl h0 []).ext E13
    have V13 : own_Ar Z h13 b13 .long n2 (fun _ => (.long (0 : Int64))) := own_Ar.new A13 hp2
    have ac17 : ∀ t, Steps p.tables e below (T13.setTop (mkF m 17 #[.val (.ref a1), .val (.int p2), .unset] [(.ref b13)])) t → Steps p.tables e below (s₁.setTop (entryFrame m #[(.ref a1), (.int p2)] 3)) t := fun t k => ac12 t (st13 t k)
    have ac18 : ∀ t, Steps p.tables e below (T13.setTop (mkF m 23 #[.val (.ref a1), .val (.int p2), .val (.ref b13)] [(.ref a1), (.int (0 : Int32)), (.ref b13), (.int (0 : Int32)), (.ref a1)])) t → Steps p.tables e below (s₁.setTop (entryFrame m #[(.ref a1), (.int p2)] 3)) t := fun t k => ac17 t (by
        show Steps p.tables e below (T13.setTop (mkF m 17 #[.val (.ref a1), .val (.int p2), .unset] [(.ref b13)])) _
        refine XS.astoreN X13.here hx rfl (hb hby d6_17) rfl rfl (l' := #[.val (.ref a1), .val (.int p2), .val (.ref b13)]) rfl ?_
        show Steps p.tables e below (T13.setTop (mkF m 18 #[.val (.ref a1), .val (.int p2), .val (.ref b13)] [])) _
        refine XS.aloadN X13.here hx rfl (hb hby d6_18) rfl rfl ?_
        show Steps p.tables e below (T13.setTop (mkF m 19 #[.val (.ref a1), .val (.int p2), .val (.ref b13)] [(.ref a1)])) _
        refine XS.iconst X13.here hx rfl (hb hby d6_19) ?_
        show Steps p.tables e below (T13.setTop (mkF m 20 #[.val (.ref a1), .val (.int p2), .val (.ref b13)] [(.int (0 : Int32)), (.ref a1)])) _
        refine XS.aloadN X13.here hx rfl (hb hby d6_20) rfl rfl ?_
        show Steps p.tables e below (T13.setTop (mkF m 21 #[.val (.ref a1), .val (.int p2), .val (.ref b13)] [(.ref b13), (.int (0 : Int32)), (.ref a1)])) _
        refine XS.iconst X13.here hx rfl (hb hby d6_21) ?_
        show Steps p.tables e below (T13.setTop (mkF m 22 #[.val (.ref a1), .val (.int p2), .val (.ref b13)] [(.int (0 : Int32)), (.ref b13), (.int (0 : Int32)), (.ref a1)])) _
        refine XS.aloadN X13.here hx rfl (hb hby d6_22) rfl rfl ?_
        exact k)
    obtain ⟨cl19, Ac19, hl19, hb19⟩ := Vf14.len
    have ac20 : ∀ t, Steps p.tables e below (T13.setTop (mkF m 25 #[.val (.ref a1), .val (.int p2), .val (.ref b13)] [(.int p2), (.int (Int32.ofNat n1)), (.int (0 : Int32)), (.ref b13), (.int (0 : Int32)), (.ref a1)])) t → Steps p.tables e below (s₁.setTop (entryFrame m #[(.ref a1), (.int p2)] 3)) t := fun t k => ac18 t (by
        show Steps p.tables e below (T13.setTop (mkF m 23 #[.val (.ref a1), .val (.int p2), .val (.ref b13)] [(.ref a1), (.int (0 : Int32)), (.ref b13), (.int (0 : Int32)), (.ref a1)])) _
        refine X13.arraylength hx (by rw [e13]; exact Ac19.1) (State.isArrayOf_alike hZ.alike Ac19.2.1) (g := (mkF m 23 #[.val (.ref a1), .val (.int p2), .val (.ref b13)] [(.ref a1), (.int (0 : Int32)), (.ref b13), (.int (0 : Int32)), (.ref a1)])) rfl rfl (hb hby d6_23) _ ?_
        rw [hl19]
        show Steps p.tables e below (T13.setTop (mkF m 24 #[.val (.ref a1), .val (.int p2), .val (.ref b13)] [(.int (Int32.ofNat n1)), (.int (0 : Int32)), (.ref b13), (.int (0 : Int32)), (.ref a1)])) _
        refine XS.iloadN X13.here hx rfl (hb hby d6_24) rfl ?_
        exact k)
    obtain ⟨_, _, ⟨T21, L21, k21, n21⟩, -, X21, ⟨Lc21, hQ21, l21, y21, z21⟩, st21⟩ := Jvm.LawKit.callS X13 hx (y := (⟨"java/lang/Math", "min", "(II)I"⟩ : MethodName)) hown (mvT hZ (hw _ (List.mem_of_getElem? (i := 60) rfl))) (mvT hZ (hw _ (List.mem_of_getElem? (i := 61) rfl))) (mvT hZ (hw _ (List.mem_of_getElem? (i := 28) rfl))) (mvT hZ (hw _ (List.mem_of_getElem? (i := 62) rfl))) (by decide) (backOf (W := 4) (rm10 l Z a0 hw [] (Int32.ofNat n1) p2  h13 n0 Z13 ) hZ (hw _ (List.mem_of_getElem? (i := 62) rfl)) (hw _ (List.mem_of_getElem? (i := 28) rfl)) (by decide) (by decide)) (g := (mkF m 25 #[.val (.ref a1), .val (.int p2), .val (.ref b13)] [(.int p2), (.int (Int32.ofNat n1)), (.int (0 : Int32)), (.ref b13), (.int (0 : Int32)), (.ref a1)])) rfl (by rw [hml]; rfl) (argsL := [(.int (Int32.ofNat n1)), (.int p2)]) (rest := [(.int (0 : Int32)), (.ref b13), (.int (0 : Int32)), (.ref a1)]) (lenOf pd_7 rfl) rfl (by show 2 * 0 + _ ≤ _; exact Nat.le_of_eq rfl) (hb hby d6_25) (fun _ _ => ⟨rfl, e13, (by decide : 1 + 0 ≤ _), (by decide : 1 + 0 ≤ _)⟩)
    dsimp only [Pt.U, Pt.locs, Pt.cells, Pt.slots] at X21 l21 y21 z21 st21 hQ21
    subst l21 y21 z21
    obtain ⟨rfl, N21q, Qe21⟩ := hQ21
    have N21 := Fr.app N0 N21q
    have ac22 : ∀ t, Steps p.tables e below (T21.setTop (mkF m 28 #[.val (.ref a1), .val (.int p2), .val (.ref b13)] [(.int (own_min (Int32.ofNat n1) p2)), (.int (0 : Int32)), (.ref b13), (.int (0 : Int32)), (.ref a1)])) t → Steps p.tables e below (s₁.setTop (entryFrame m #[(.ref a1), (.int p2)] 3)) t := fun t k => ac20 t (st21 t k)
    have hmin23 : (own_min (Int32.ofNat n1) p2).toInt = n1 := by rw [own_min_f (own_nlt_of (by omega))]; exact hn1
    obtain ⟨T23, h23, Lc23, X23, e23, N23, K23q, V23, st23⟩ := own_cp X21 hx hZ hown (hw _ (List.mem_of_getElem? (i := 63) rfl)) (hw _ (List.mem_of_getElem? (i := 66) rfl)) (hw _ (List.mem_of_getElem? (i := 64) rfl)) (hw _ (List.mem_of_getElem? (i := 65) rfl)) Qe21 Vf14 V13 rfl (k := n1) (Nat.le_refl _) (Nat.le_of_lt hnn) hmin23 N21 g_b13 (g := (mkF m 28 #[.val (.ref a1), .val (.int p2), .val (.ref b13)] [(.int (own_min (Int32.ofNat n1) p2)), (.int (0 : Int32)), (.ref b13), (.int (0 : Int32)), (.ref a1)])) rfl (by rw [hml]; rfl) rfl (hb hby d6_28) (by decide) (W := 0) (by show 2 * 0 + _ ≤ _; exact Nat.le_of_eq rfl) (by decide)
    have Vf24 := Vf14.keep K23q (ninS ne_a1_b13 nin0)
    have Ef25 := Ef15.keep K23q
    have Ef26 := Ea13.keep K23q
    have Z23 : n0 ≤ h23.size := Nat.le_trans Z13 K23q.1
    have Kp27 : Keep h0 h23 [] := Kp16.trans K23q (allS (Or.inr sz_b13) all0)
    have ac28 : ∀ t, Steps p.tables e below (T23.setTop (mkF m 31 #[.val (.ref a1), .val (.int p2), .val (.ref b13)] [])) t → Steps p.tables e below (s₁.setTop (entryFrame m #[(.ref a1), (.int p2)] 3)) t := fun t k => ac22 t (st23 t k)
    have ac29 : ∀ t, Steps p.tables e below (T23.setTop (mkF m 32 #[.val (.ref a1), .val (.int p2), .val (.ref b13)] [(.ref b13)])) t → Steps p.tables e below (s₁.setTop (entryFrame m #[(.ref a1), (.int p2)] 3)) t := fun t k => ac28 t (by
        show Steps p.tables e below (T23.setTop (mkF m 31 #[.val (.ref a1), .val (.int p2), .val (.ref b13)] [])) _
        refine XS.aloadN X23.here hx rfl (hb hby d6_31) rfl rfl ?_
        exact k)
    obtain ⟨fs, hr, hrun, hended, hW, hsame⟩ := X23.leave (v := some (.ref b13)) (fun h => by rw [Bd.returns] at h; cases h) (BodyLoose.notSynchronized Bd)
    refine ⟨_, _, ac29 _ ?_, hrun, hended, _, _, rfl, ?_, ⟨_, rfl⟩, hW, hsame.mono (by decide) (by decide)⟩
    · show Steps p.tables e below (T23.setTop (mkF m 32 #[.val (.ref a1), .val (.int p2), .val (.ref b13)] [(.ref b13)])) _
      exact retOut X23 hx Bd.returns rfl (Or.inr (Or.inr (Or.inr (Or.inr ⟨rfl, rfl, rfl⟩)))) (hb hby d6_32) hr
    · show Q6f Z a1 p2 n1 n2 f h0 n0 _ T23.heap _
      rw [e23]
      exact ⟨b13, rfl, N23, Kp27, sz_b13, V23, Ef26⟩
theorem ef_rm16 (m : MethodId) (x0 : Int32) : entryFrame m #[(.int x0)] 2 = mkF m 0 #[.val (.int x0), .unset] [] := by first | (simp [entryFrame, mkF, argsToLocals, Value.category]; done) | rfl
def Q16 (Z : State) (p1 : Int32) (h0 : Heap) (n0 : Nat) (v : Option Value) (h : Heap) (L : List Loc) : Prop := v = some (.int (own_ntz32 p1)) ∧ Fr n0 L ∧ h = h0
set_option maxRecDepth 65536 in
set_option maxHeartbeats 40000000 in
theorem rm16 (l : Launch) (Z : State) (a0 : Array Value) (hw : ∀ d ∈ tables_1, d.before a0 Z = true) (ws : List Jvm.Cond) (p1 : Int32) (h0 : Heap) (n0 : Nat) (Z0 : n0 ≤ h0.size) :
    MetFree l (⟨"java/lang/Integer", "numberOfTrailingZeros", "(I)I"⟩ : MethodName) (head1 (Jvm.Cond.code (⟨"java/lang/Integer", "numberOfTrailingZeros", "(I)I"⟩ : MethodName) jdk_33_method_48_code 2 (some .int) :: ws) ({ frames := 0, cells := 0, slots := 0, locals := 0 } : Room)) (fun a U => a = #[(.int p1)] ∧ Z.Warmed39 U.vm ∧ U.heap = h0) (fun _ _ _ _ _ => True) (fun _ U o U' => ∃ v L, o = .returned v ∧ Q16 Z p1 h0 n0 v U'.heap L ∧ FrameEnd U o U' L ({ frames := 0, cells := 0, slots := 0, locals := 0 } : Room).cells ({ frames := 0, cells := 0, slots := 0, locals := 0 } : Room).slots) := by
  refine MetFree.of_bodySF (plainFor_of_name pn_16) hisR ?_
  intro p e s m args below meth c s₁ Bd hml0 hP hK
  obtain ⟨rfl, hZ, hh⟩ := hP
  have hx := Bd.exec
  have hby := Bd.bytes
  have hml : c.maxLocals = 2 := hml0
  have hown : s.vm.findClass "java/lang/Integer" = some m.cls := findClass_of_methodNamed Bd.named
  have hnm := (name_of_methodNamed Bd.named Bd.method).1
  have X0 : Stand p l e ({ frames := 0, cells := 0, slots := 0, locals := 0 } : Room) s m #[(.int p1)] below meth c s₁ [] 0 0 := Stand.of_body Bd
  have e0 : s₁.heap = h0 := by rw [← hh, Bd.state]; rfl
  have N0 := Fr.nil n0
  have a0s : ∀ t, Steps p.tables e below (s₁.setTop (mkF m 0 #[.val (.int p1), .unset] [])) t → Steps p.tables e below (s₁.setTop (entryFrame m #[(.int p1)] 2)) t := fun t k => castTop (ef_rm16 m p1) k
  have ac1 : ∀ t, Steps p.tables e below (s₁.setTop (mkF m 8 #[.val (.int ((p1 ^^^ (-1 : Int32)) &&& (p1 - (1 : Int32)))), .unset] [])) t → Steps p.tables e below (s₁.setTop (entryFrame m #[(.int p1)] 2)) t := fun t k => a0s t (by
      show Steps p.tables e below (s₁.setTop (mkF m 0 #[.val (.int p1), .unset] [])) _
      refine XS.iloadN X0.here hx rfl (hb hby d16_0) rfl ?_
      show Steps p.tables e below (s₁.setTop (mkF m 1 #[.val (.int p1), .unset] [(.int p1)])) _
      refine XS.iconst X0.here hx rfl (hb hby d16_1) ?_
      show Steps p.tables e below (s₁.setTop (mkF m 2 #[.val (.int p1), .unset] [(.int (-1 : Int32)), (.int p1)])) _
      refine XS.ixor X0.here hx rfl (hb hby d16_2) rfl ?_
      show Steps p.tables e below (s₁.setTop (mkF m 3 #[.val (.int p1), .unset] [(.int (p1 ^^^ (-1 : Int32)))])) _
      refine XS.iloadN X0.here hx rfl (hb hby d16_3) rfl ?_
      show Steps p.tables e below (s₁.setTop (mkF m 4 #[.val (.int p1), .unset] [(.int p1), (.int (p1 ^^^ (-1 : Int32)))])) _
      refine XS.iconst X0.here hx rfl (hb hby d16_4) ?_
      show Steps p.tables e below (s₁.setTop (mkF m 5 #[.val (.int p1), .unset] [(.int (1 : Int32)), (.int p1), (.int (p1 ^^^ (-1 : Int32)))])) _
      refine XS.isub X0.here hx rfl (hb hby d16_5) rfl ?_
      show Steps p.tables e below (s₁.setTop (mkF m 6 #[.val (.int p1), .unset] [(.int (p1 - (1 : Int32))), (.int (p1 ^^^ (-1 : Int32)))])) _
      refine XS.iand X0.here hx rfl (hb hby d16_6) rfl ?_
      show Steps p.tables e below (s₁.setTop (mkF m 7 #[.val (.int p1), .unset] [(.int ((p1 ^^^ (-1 : Int32)) &&& (p1 - (1 : Int32))))])) _
      refine XS.istoreN X0.here hx rfl (hb hby d16_7) rfl (l' := #[.val (.int ((p1 ^^^ (-1 : Int32)) &&& (p1 - (1 : Int32)))), .unset]) rfl ?_
      exact k)
  have ac2 : ∀ t, Steps p.tables e below (s₁.setTop (mkF m 8 #[.val (.int (own_i0 p1)), .unset] [])) t → Steps p.tables e below (s₁.setTop (entryFrame m #[(.int p1)] 2)) t := ac1
  have ac3 : ∀ t, Steps p.tables e below (s₁.setTop (mkF m 9 #[.val (.int (own_i0 p1)), .unset] [(.int (own_i0 p1))])) t → Steps p.tables e below (s₁.setTop (entryFrame m #[(.int p1)] 2)) t := fun t k => ac2 t (by
      show Steps p.tables e below (s₁.setTop (mkF m 8 #[.val (.int (own_i0 p1)), .unset] [])) _
      refine XS.iloadN X0.here hx rfl (hb hby d16_8) rfl ?_
      exact k)
  by_cases hg : (0 : Int32) < (own_i0 p1)
  ·
    have ac4 : ∀ t, Steps p.tables e below (s₁.setTop (mkF m 23 #[.val (.int (own_i0 p1)), .val (.int (1 : Int32))] [(.int (65536 : Int32)), (.int (own_i0 p1))])) t → Steps p.tables e below (s₁.setTop (entryFrame m #[(.int p1)] 2)) t := fun t k => ac3 t (by
        show Steps p.tables e below (s₁.setTop (mkF m 9 #[.val (.int (own_i0 p1)), .unset] [(.int (own_i0 p1))])) _
        refine XS.ifYes X0.here hx rfl (pc0 := 9) (pc' := 17) rfl (hb hby d16_9) rfl ((if0 _ _).trans (tlt hg).2.2.1) (by decide) (by decide) ?_
        show Steps p.tables e below (s₁.setTop (mkF m 17 #[.val (.int (own_i0 p1)), .unset] [])) _
        refine XS.iconst X0.here hx rfl (hb hby d16_17) ?_
        show Steps p.tables e below (s₁.setTop (mkF m 18 #[.val (.int (own_i0 p1)), .unset] [(.int (1 : Int32))])) _
        refine XS.istoreN X0.here hx rfl (hb hby d16_18) rfl (l' := #[.val (.int (own_i0 p1)), .val (.int (1 : Int32))]) rfl ?_
        show Steps p.tables e below (s₁.setTop (mkF m 19 #[.val (.int (own_i0 p1)), .val (.int (1 : Int32))] [])) _
        refine XS.iloadN X0.here hx rfl (hb hby d16_19) rfl ?_
        show Steps p.tables e below (s₁.setTop (mkF m 20 #[.val (.int (own_i0 p1)), .val (.int (1 : Int32))] [(.int (own_i0 p1))])) _
        refine X0.ldcwInt hx hown (mvT hZ (hw _ (List.mem_of_getElem? (i := 105) rfl))) (g := (mkF m 20 #[.val (.int (own_i0 p1)), .val (.int (1 : Int32))] [(.int (own_i0 p1))])) rfl (hb hby d16_20) _ ?_
        exact k)
    have ac5 : ∀ t, Steps p.tables e below (s₁.setTop (mkF m 34 #[.val (.int (own_i1 p1)), .val (.int (own_n1 p1))] [])) t → Steps p.tables e below (s₁.setTop (entryFrame m #[(.int p1)] 2)) t := fun t k => ac4 t (by
        by_cases hs : (65536 : Int32) < (own_i0 p1)
        ·
          show Steps p.tables e below (s₁.setTop (mkF m 23 #[.val (.int (own_i0 p1)), .val (.int (1 : Int32))] [(.int (65536 : Int32)), (.int (own_i0 p1))])) _
          refine XS.icmpNo X0.here hx rfl (hb hby d16_23) rfl (tlt hs).2.2.2 ?_
          show Steps p.tables e below (s₁.setTop (mkF m 26 #[.val (.int (own_i0 p1)), .val (.int (1 : Int32))] [])) _
          refine XS.iinc X0.here hx rfl (hb hby d16_26) rfl (l' := #[.val (.int (own_i0 p1)), .val (.int ((1 : Int32) + (16 : Int32)))]) rfl ?_
          show Steps p.tables e below (s₁.setTop (mkF m 29 #[.val (.int (own_i0 p1)), .val (.int ((1 : Int32) + (16 : Int32)))] [])) _
          refine XS.iloadN X0.here hx rfl (hb hby d16_29) rfl ?_
          show Steps p.tables e below (s₁.setTop (mkF m 30 #[.val (.int (own_i0 p1)), .val (.int ((1 : Int32) + (16 : Int32)))] [(.int (own_i0 p1))])) _
          refine XS.bipush X0.here hx rfl (hb hby d16_30) ?_
          show Steps p.tables e below (s₁.setTop (mkF m 32 #[.val (.int (own_i0 p1)), .val (.int ((1 : Int32) + (16 : Int32)))] [(.int (16 : Int32)), (.int (own_i0 p1))])) _
          refine XS.iushr X0.here hx rfl (hb hby d16_32) rfl ?_
          show Steps p.tables e below (s₁.setTop (mkF m 33 #[.val (.int (own_i0 p1)), .val (.int ((1 : Int32) + (16 : Int32)))] [(.int (((own_i0 p1).toUInt32 >>> ((16 : Int32) &&& 31).toUInt32).toInt32))])) _
          refine XS.istoreN X0.here hx rfl (hb hby d16_33) rfl (l' := #[.val (.int (((own_i0 p1).toUInt32 >>> ((16 : Int32) &&& 31).toUInt32).toInt32)), .val (.int ((1 : Int32) + (16 : Int32)))]) rfl ?_
          rw [show own_i1 p1 = _ from own_sI_t hs, show own_n1 p1 = _ from own_sN_t hs] at k; exact k
        ·
          show Steps p.tables e below (s₁.setTop (mkF m 23 #[.val (.int (own_i0 p1)), .val (.int (1 : Int32))] [(.int (65536 : Int32)), (.int (own_i0 p1))])) _
          refine XS.icmpYes X0.here hx rfl (pc0 := 23) (pc' := 34) rfl (hb hby d16_23) rfl (flt hs).2.2.2 (by decide) (by decide) ?_
          rw [show own_i1 p1 = _ from own_sI_f hs, show own_n1 p1 = _ from own_sN_f hs] at k; exact k)
    have ac6 : ∀ t, Steps p.tables e below (s₁.setTop (mkF m 38 #[.val (.int (own_i1 p1)), .val (.int (own_n1 p1))] [(.int (256 : Int32)), (.int (own_i1 p1))])) t → Steps p.tables e below (s₁.setTop (entryFrame m #[(.int p1)] 2)) t := fun t k => ac5 t (by
        show Steps p.tables e below (s₁.setTop (mkF m 34 #[.val (.int (own_i1 p1)), .val (.int (own_n1 p1))] [])) _
        refine XS.iloadN X0.here hx rfl (hb hby d16_34) rfl ?_
        show Steps p.tables e below (s₁.setTop (mkF m 35 #[.val (.int (own_i1 p1)), .val (.int (own_n1 p1))] [(.int (own_i1 p1))])) _
        refine XS.sipush X0.here hx rfl (hb hby d16_35) ?_
        exact k)
    have ac7 : ∀ t, Steps p.tables e below (s₁.setTop (mkF m 49 #[.val (.int (own_i2 p1)), .val (.int (own_n2 p1))] [])) t → Steps p.tables e below (s₁.setTop (entryFrame m #[(.int p1)] 2)) t := fun t k => ac6 t (by
        by_cases hs : (256 : Int32) < (own_i1 p1)
        ·
          show Steps p.tables e below (s₁.setTop (mkF m 38 #[.val (.int (own_i1 p1)), .val (.int (own_n1 p1))] [(.int (256 : Int32)), (.int (own_i1 p1))])) _
          refine XS.icmpNo X0.here hx rfl (hb hby d16_38) rfl (tlt hs).2.2.2 ?_
          show Steps p.tables e below (s₁.setTop (mkF m 41 #[.val (.int (own_i1 p1)), .val (.int (own_n1 p1))] [])) _
          refine XS.iinc X0.here hx rfl (hb hby d16_41) rfl (l' := #[.val (.int (own_i1 p1)), .val (.int ((own_n1 p1) + (8 : Int32)))]) rfl ?_
          show Steps p.tables e below (s₁.setTop (mkF m 44 #[.val (.int (own_i1 p1)), .val (.int ((own_n1 p1) + (8 : Int32)))] [])) _
          refine XS.iloadN X0.here hx rfl (hb hby d16_44) rfl ?_
          show Steps p.tables e below (s₁.setTop (mkF m 45 #[.val (.int (own_i1 p1)), .val (.int ((own_n1 p1) + (8 : Int32)))] [(.int (own_i1 p1))])) _
          refine XS.bipush X0.here hx rfl (hb hby d16_45) ?_
          show Steps p.tables e below (s₁.setTop (mkF m 47 #[.val (.int (own_i1 p1)), .val (.int ((own_n1 p1) + (8 : Int32)))] [(.int (8 : Int32)), (.int (own_i1 p1))])) _
          refine XS.iushr X0.here hx rfl (hb hby d16_47) rfl ?_
          show Steps p.tables e below (s₁.setTop (mkF m 48 #[.val (.int (own_i1 p1)), .val (.int ((own_n1 p1) + (8 : Int32)))] [(.int (((own_i1 p1).toUInt32 >>> ((8 : Int32) &&& 31).toUInt32).toInt32))])) _
          refine XS.istoreN X0.here hx rfl (hb hby d16_48) rfl (l' := #[.val (.int (((own_i1 p1).toUInt32 >>> ((8 : Int32) &&& 31).toUInt32).toInt32)), .val (.int ((own_n1 p1) + (8 : Int32)))]) rfl ?_
          rw [show own_i2 p1 = _ from own_sI_t hs, show own_n2 p1 = _ from own_sN_t hs] at k; exact k
        ·
          show Steps p.tables e below (s₁.setTop (mkF m 38 #[.val (.int (own_i1 p1)), .val (.int (own_n1 p1))] [(.int (256 : Int32)), (.int (own_i1 p1))])) _
          refine XS.icmpYes X0.here hx rfl (pc0 := 38) (pc' := 49) rfl (hb hby d16_38) rfl (flt hs).2.2.2 (by decide) (by decide) ?_
          rw [show own_i2 p1 = _ from own_sI_f hs, show own_n2 p1 = _ from own_sN_f hs] at k; exact k)
    have ac8 : ∀ t, Steps p.tables e below (s₁.setTop (mkF m 52 #[.val (.int (own_i2 p1)), .val (.int (own_n2 p1))] [(.int (16 : Int32)), (.int (own_i2 p1))])) t → Steps p.tables e below (s₁.setTop (entryFrame m #[(.int p1)] 2)) t := fun t k => ac7 t (by
        show Steps p.tables e below (s₁.setTop (mkF m 49 #[.val (.int (own_i2 p1)), .val (.int (own_n2 p1))] [])) _
        refine XS.iloadN X0.here hx rfl (hb hby d16_49) rfl ?_
        show Steps p.tables e below (s₁.setTop (mkF m 50 #[.val (.int (own_i2 p1)), .val (.int (own_n2 p1))] [(.int (own_i2 p1))])) _
        refine XS.bipush X0.here hx rfl (hb hby d16_50) ?_
        exact k)
    have ac9 : ∀ t, Steps p.tables e below (s₁.setTop (mkF m 62 #[.val (.int (own_i3 p1)), .val (.int (own_n3 p1))] [])) t → Steps p.tables e below (s₁.setTop (entryFrame m #[(.int p1)] 2)) t := fun t k => ac8 t (by
        by_cases hs : (16 : Int32) < (own_i2 p1)
        ·
          show Steps p.tables e below (s₁.setTop (mkF m 52 #[.val (.int (own_i2 p1)), .val (.int (own_n2 p1))] [(.int (16 : Int32)), (.int (own_i2 p1))])) _
          refine XS.icmpNo X0.here hx rfl (hb hby d16_52) rfl (tlt hs).2.2.2 ?_
          show Steps p.tables e below (s₁.setTop (mkF m 55 #[.val (.int (own_i2 p1)), .val (.int (own_n2 p1))] [])) _
          refine XS.iinc X0.here hx rfl (hb hby d16_55) rfl (l' := #[.val (.int (own_i2 p1)), .val (.int ((own_n2 p1) + (4 : Int32)))]) rfl ?_
          show Steps p.tables e below (s₁.setTop (mkF m 58 #[.val (.int (own_i2 p1)), .val (.int ((own_n2 p1) + (4 : Int32)))] [])) _
          refine XS.iloadN X0.here hx rfl (hb hby d16_58) rfl ?_
          show Steps p.tables e below (s₁.setTop (mkF m 59 #[.val (.int (own_i2 p1)), .val (.int ((own_n2 p1) + (4 : Int32)))] [(.int (own_i2 p1))])) _
          refine XS.iconst X0.here hx rfl (hb hby d16_59) ?_
          show Steps p.tables e below (s₁.setTop (mkF m 60 #[.val (.int (own_i2 p1)), .val (.int ((own_n2 p1) + (4 : Int32)))] [(.int (4 : Int32)), (.int (own_i2 p1))])) _
          refine XS.iushr X0.here hx rfl (hb hby d16_60) rfl ?_
          show Steps p.tables e below (s₁.setTop (mkF m 61 #[.val (.int (own_i2 p1)), .val (.int ((own_n2 p1) + (4 : Int32)))] [(.int (((own_i2 p1).toUInt32 >>> ((4 : Int32) &&& 31).toUInt32).toInt32))])) _
          refine XS.istoreN X0.here hx rfl (hb hby d16_61) rfl (l' := #[.val (.int (((own_i2 p1).toUInt32 >>> ((4 : Int32) &&& 31).toUInt32).toInt32)), .val (.int ((own_n2 p1) + (4 : Int32)))]) rfl ?_
          rw [show own_i3 p1 = _ from own_sI_t hs, show own_n3 p1 = _ from own_sN_t hs] at k; exact k
        ·
          show Steps p.tables e below (s₁.setTop (mkF m 52 #[.val (.int (own_i2 p1)), .val (.int (own_n2 p1))] [(.int (16 : Int32)), (.int (own_i2 p1))])) _
          refine XS.icmpYes X0.here hx rfl (pc0 := 52) (pc' := 62) rfl (hb hby d16_52) rfl (flt hs).2.2.2 (by decide) (by decide) ?_
          rw [show own_i3 p1 = _ from own_sI_f hs, show own_n3 p1 = _ from own_sN_f hs] at k; exact k)
    have ac10 : ∀ t, Steps p.tables e below (s₁.setTop (mkF m 64 #[.val (.int (own_i3 p1)), .val (.int (own_n3 p1))] [(.int (4 : Int32)), (.int (own_i3 p1))])) t → Steps p.tables e below (s₁.setTop (entryFrame m #[(.int p1)] 2)) t := fun t k => ac9 t (by
        show Steps p.tables e below (s₁.setTop (mkF m 62 #[.val (.int (own_i3 p1)), .val (.int (own_n3 p1))] [])) _
        refine XS.iloadN X0.here hx rfl (hb hby d16_62) rfl ?_
        show Steps p.tables e below (s₁.setTop (mkF m 63 #[.val (.int (own_i3 p1)), .val (.int (own_n3 p1))] [(.int (own_i3 p1))])) _
        refine XS.iconst X0.here hx rfl (hb hby d16_63) ?_
        exact k)
    have ac11 : ∀ t, Steps p.tables e below (s₁.setTop (mkF m 74 #[.val (.int (own_i4 p1)), .val (.int (own_n4 p1))] [])) t → Steps p.tables e below (s₁.setTop (entryFrame m #[(.int p1)] 2)) t := fun t k => ac10 t (by
        by_cases hs : (4 : Int32) < (own_i3 p1)
        ·
          show Steps p.tables e below (s₁.setTop (mkF m 64 #[.val (.int (own_i3 p1)), .val (.int (own_n3 p1))] [(.int (4 : Int32)), (.int (own_i3 p1))])) _
          refine XS.icmpNo X0.here hx rfl (hb hby d16_64) rfl (tlt hs).2.2.2 ?_
          show Steps p.tables e below (s₁.setTop (mkF m 67 #[.val (.int (own_i3 p1)), .val (.int (own_n3 p1))] [])) _
          refine XS.iinc X0.here hx rfl (hb hby d16_67) rfl (l' := #[.val (.int (own_i3 p1)), .val (.int ((own_n3 p1) + (2 : Int32)))]) rfl ?_
          show Steps p.tables e below (s₁.setTop (mkF m 70 #[.val (.int (own_i3 p1)), .val (.int ((own_n3 p1) + (2 : Int32)))] [])) _
          refine XS.iloadN X0.here hx rfl (hb hby d16_70) rfl ?_
          show Steps p.tables e below (s₁.setTop (mkF m 71 #[.val (.int (own_i3 p1)), .val (.int ((own_n3 p1) + (2 : Int32)))] [(.int (own_i3 p1))])) _
          refine XS.iconst X0.here hx rfl (hb hby d16_71) ?_
          show Steps p.tables e below (s₁.setTop (mkF m 72 #[.val (.int (own_i3 p1)), .val (.int ((own_n3 p1) + (2 : Int32)))] [(.int (2 : Int32)), (.int (own_i3 p1))])) _
          refine XS.iushr X0.here hx rfl (hb hby d16_72) rfl ?_
          show Steps p.tables e below (s₁.setTop (mkF m 73 #[.val (.int (own_i3 p1)), .val (.int ((own_n3 p1) + (2 : Int32)))] [(.int (((own_i3 p1).toUInt32 >>> ((2 : Int32) &&& 31).toUInt32).toInt32))])) _
          refine XS.istoreN X0.here hx rfl (hb hby d16_73) rfl (l' := #[.val (.int (((own_i3 p1).toUInt32 >>> ((2 : Int32) &&& 31).toUInt32).toInt32)), .val (.int ((own_n3 p1) + (2 : Int32)))]) rfl ?_
          rw [show own_i4 p1 = _ from own_sI_t hs, show own_n4 p1 = _ from own_sN_t hs] at k; exact k
        ·
          show Steps p.tables e below (s₁.setTop (mkF m 64 #[.val (.int (own_i3 p1)), .val (.int (own_n3 p1))] [(.int (4 : Int32)), (.int (own_i3 p1))])) _
          refine XS.icmpYes X0.here hx rfl (pc0 := 64) (pc' := 74) rfl (hb hby d16_64) rfl (flt hs).2.2.2 (by decide) (by decide) ?_
          rw [show own_i4 p1 = _ from own_sI_f hs, show own_n4 p1 = _ from own_sN_f hs] at k; exact k)
    have ac12 : ∀ t, Steps p.tables e below (s₁.setTop (mkF m 79 #[.val (.int (own_i4 p1)), .val (.int (own_n4 p1))] [(.int ((own_n4 p1) + (((own_i4 p1).toUInt32 >>> ((1 : Int32) &&& 31).toUInt32).toInt32)))])) t → Steps p.tables e below (s₁.setTop (entryFrame m #[(.int p1)] 2)) t := fun t k => ac11 t (by
        show Steps p.tables e below (s₁.setTop (mkF m 74 #[.val (.int (own_i4 p1)), .val (.int (own_n4 p1))] [])) _
        refine XS.iloadN X0.here hx rfl (hb hby d16_74) rfl ?_
        show Steps p.tables e below (s₁.setTop (mkF m 75 #[.val (.int (own_i4 p1)), .val (.int (own_n4 p1))] [(.int (own_n4 p1))])) _
        refine XS.iloadN X0.here hx rfl (hb hby d16_75) rfl ?_
        show Steps p.tables e below (s₁.setTop (mkF m 76 #[.val (.int (own_i4 p1)), .val (.int (own_n4 p1))] [(.int (own_i4 p1)), (.int (own_n4 p1))])) _
        refine XS.iconst X0.here hx rfl (hb hby d16_76) ?_
        show Steps p.tables e below (s₁.setTop (mkF m 77 #[.val (.int (own_i4 p1)), .val (.int (own_n4 p1))] [(.int (1 : Int32)), (.int (own_i4 p1)), (.int (own_n4 p1))])) _
        refine XS.iushr X0.here hx rfl (hb hby d16_77) rfl ?_
        show Steps p.tables e below (s₁.setTop (mkF m 78 #[.val (.int (own_i4 p1)), .val (.int (own_n4 p1))] [(.int (((own_i4 p1).toUInt32 >>> ((1 : Int32) &&& 31).toUInt32).toInt32)), (.int (own_n4 p1))])) _
        refine XS.iadd X0.here hx rfl (hb hby d16_78) rfl ?_
        exact k)
    obtain ⟨fs, hr, hrun, hended, hW, hsame⟩ := X0.leave (v := some (.int ((own_n4 p1) + (((own_i4 p1).toUInt32 >>> ((1 : Int32) &&& 31).toUInt32).toInt32)))) (fun h => by rw [Bd.returns] at h; cases h) (BodyLoose.notSynchronized Bd)
    refine ⟨_, _, ac12 _ ?_, hrun, hended, _, _, rfl, ?_, ⟨_, rfl⟩, hW, hsame.mono (by decide) (by decide)⟩
    · show Steps p.tables e below (s₁.setTop (mkF m 79 #[.val (.int (own_i4 p1)), .val (.int (own_n4 p1))] [(.int ((own_n4 p1) + (((own_i4 p1).toUInt32 >>> ((1 : Int32) &&& 31).toUInt32).toInt32)))])) _
      exact retI X0 hx Bd.returns (hb hby d16_79) hr
    · show Q16 Z p1 h0 n0 _ s₁.heap _
      rw [e0]
      exact ⟨(congrArg (fun z => some (Value.int z)) (own_ntz_t hg)).symm, N0, rfl⟩
  ·
    have ac13 : ∀ t, Steps p.tables e below (s₁.setTop (mkF m 16 #[.val (.int (own_i0 p1)), .unset] [(.int ((own_i0 p1) &&& (32 : Int32)))])) t → Steps p.tables e below (s₁.setTop (entryFrame m #[(.int p1)] 2)) t := fun t k => ac3 t (by
        show Steps p.tables e below (s₁.setTop (mkF m 9 #[.val (.int (own_i0 p1)), .unset] [(.int (own_i0 p1))])) _
        refine XS.ifNo X0.here hx rfl (hb hby d16_9) rfl ((if0 _ _).trans (flt hg).2.2.1) ?_
        show Steps p.tables e below (s₁.setTop (mkF m 12 #[.val (.int (own_i0 p1)), .unset] [])) _
        refine XS.iloadN X0.here hx rfl (hb hby d16_12) rfl ?_
        show Steps p.tables e below (s₁.setTop (mkF m 13 #[.val (.int (own_i0 p1)), .unset] [(.int (own_i0 p1))])) _
        refine XS.bipush X0.here hx rfl (hb hby d16_13) ?_
        show Steps p.tables e below (s₁.setTop (mkF m 15 #[.val (.int (own_i0 p1)), .unset] [(.int (32 : Int32)), (.int (own_i0 p1))])) _
        refine XS.iand X0.here hx rfl (hb hby d16_15) rfl ?_
        exact k)
    obtain ⟨fs, hr, hrun, hended, hW, hsame⟩ := X0.leave (v := some (.int ((own_i0 p1) &&& (32 : Int32)))) (fun h => by rw [Bd.returns] at h; cases h) (BodyLoose.notSynchronized Bd)
    refine ⟨_, _, ac13 _ ?_, hrun, hended, _, _, rfl, ?_, ⟨_, rfl⟩, hW, hsame.mono (by decide) (by decide)⟩
    · show Steps p.tables e below (s₁.setTop (mkF m 16 #[.val (.int (own_i0 p1)), .unset] [(.int ((own_i0 p1) &&& (32 : Int32)))])) _
      exact retI X0 hx Bd.returns (hb hby d16_16) hr
    · show Q16 Z p1 h0 n0 _ s₁.heap _
      rw [e0]
      exact ⟨(congrArg (fun z => some (Value.int z)) (own_ntz_f hg)).symm, N0, rfl⟩
theorem ef_rm15 (m : MethodId) (x0 : Int64) : entryFrame m #[(.long x0)] 3 = mkF m 0 #[.val (.long x0), .second, .unset] [] := by first | (simp [entryFrame, mkF, argsToLocals, Value.category]; done) | rfl
def Q15 (Z : State) (q1 : Int64) (h0 : Heap) (n0 : Nat) (v : Option Value) (h : Heap) (L : List Loc) : Prop := v = some (.int (own_ntz64 q1)) ∧ Fr n0 L ∧ h = h0
set_option maxRecDepth 65536 in
set_option maxHeartbeats 40000000 in
theorem rm15 (l : Launch) (Z : State) (a0 : Array Value) (hw : ∀ d ∈ tables_1, d.before a0 Z = true) (ws : List Jvm.Cond) (q1 : Int64) (h0 : Heap) (n0 : Nat) (Z0 : n0 ≤ h0.size) :
    MetFree l (⟨"java/lang/Long", "numberOfTrailingZeros", "(J)I"⟩ : MethodName) (head1 (Jvm.Cond.code (⟨"java/lang/Long", "numberOfTrailingZeros", "(J)I"⟩ : MethodName) jdk_35_method_49_code 3 (some .int) :: ws) ({ frames := 1, cells := 0, slots := 0, locals := 14 } : Room)) (fun a U => a = #[(.long q1)] ∧ Z.Warmed39 U.vm ∧ U.heap = h0) (fun _ _ _ _ _ => True) (fun _ U o U' => ∃ v L, o = .returned v ∧ Q15 Z q1 h0 n0 v U'.heap L ∧ FrameEnd U o U' L ({ frames := 1, cells := 0, slots := 0, locals := 14 } : Room).cells ({ frames := 1, cells := 0, slots := 0, locals := 14 } : Room).slots) := by
  refine MetFree.of_bodySF (plainFor_of_name pn_15) hisR ?_
  intro p e s m args below meth c s₁ Bd hml0 hP hK
  obtain ⟨rfl, hZ, hh⟩ := hP
  have hx := Bd.exec
  have hby := Bd.bytes
  have hml : c.maxLocals = 3 := hml0
  have hown : s.vm.findClass "java/lang/Long" = some m.cls := findClass_of_methodNamed Bd.named
  have hnm := (name_of_methodNamed Bd.named Bd.method).1
  have X0 : Stand p l e ({ frames := 1, cells := 0, slots := 0, locals := 14 } : Room) s m #[(.long q1)] below meth c s₁ [] 0 0 := Stand.of_body Bd
  have e0 : s₁.heap = h0 := by rw [← hh, Bd.state]; rfl
  have N0 := Fr.nil n0
  have a0s : ∀ t, Steps p.tables e below (s₁.setTop (mkF m 0 #[.val (.long q1), .second, .unset] [])) t → Steps p.tables e below (s₁.setTop (entryFrame m #[(.long q1)] 3)) t := fun t k => castTop (ef_rm15 m q1) k
  have ac1 : ∀ t, Steps p.tables e below (s₁.setTop (mkF m 4 #[.val (.long q1), .second, .val (.int (q1.toInt32))] [(.int (q1.toInt32))])) t → Steps p.tables e below (s₁.setTop (entryFrame m #[(.long q1)] 3)) t := fun t k => a0s t (by
      show Steps p.tables e below (s₁.setTop (mkF m 0 #[.val (.long q1), .second, .unset] [])) _
      refine XS.lloadN X0.here hx rfl (hb hby d15_0) rfl ?_
      show Steps p.tables e below (s₁.setTop (mkF m 1 #[.val (.long q1), .second, .unset] [(.long q1)])) _
      refine XS.l2i X0.here hx rfl (hb hby d15_1) rfl ?_
      show Steps p.tables e below (s₁.setTop (mkF m 2 #[.val (.long q1), .second, .unset] [(.int (q1.toInt32))])) _
      refine XS.istoreN X0.here hx rfl (hb hby d15_2) rfl (l' := #[.val (.long q1), .second, .val (.int (q1.toInt32))]) rfl ?_
      show Steps p.tables e below (s₁.setTop (mkF m 3 #[.val (.long q1), .second, .val (.int (q1.toInt32))] [])) _
      refine XS.iloadN X0.here hx rfl (hb hby d15_3) rfl ?_
      exact k)
  by_cases hz : (q1.toInt32) = (0 : Int32)
  ·
    have ac2 : ∀ t, Steps p.tables e below (s₁.setTop (mkF m 14 #[.val (.long q1), .second, .val (.int (q1.toInt32))] [(.int (((q1.toUInt64 >>> ((32 : Int32) &&& 0x3f).toInt64.toUInt64).toInt64).toInt32)), (.int (32 : Int32))])) t → Steps p.tables e below (s₁.setTop (entryFrame m #[(.long q1)] 3)) t := fun t k => ac1 t (by
        show Steps p.tables e below (s₁.setTop (mkF m 4 #[.val (.long q1), .second, .val (.int (q1.toInt32))] [(.int (q1.toInt32))])) _
        refine XS.ifNo X0.here hx rfl (hb hby d15_4) rfl ((if0 _ _).trans (teq hz).2) ?_
        show Steps p.tables e below (s₁.setTop (mkF m 7 #[.val (.long q1), .second, .val (.int (q1.toInt32))] [])) _
        refine XS.bipush X0.here hx rfl (hb hby d15_7) ?_
        show Steps p.tables e below (s₁.setTop (mkF m 9 #[.val (.long q1), .second, .val (.int (q1.toInt32))] [(.int (32 : Int32))])) _
        refine XS.lloadN X0.here hx rfl (hb hby d15_9) rfl ?_
        show Steps p.tables e below (s₁.setTop (mkF m 10 #[.val (.long q1), .second, .val (.int (q1.toInt32))] [(.long q1), (.int (32 : Int32))])) _
        refine XS.bipush X0.here hx rfl (hb hby d15_10) ?_
        show Steps p.tables e below (s₁.setTop (mkF m 12 #[.val (.long q1), .second, .val (.int (q1.toInt32))] [(.int (32 : Int32)), (.long q1), (.int (32 : Int32))])) _
        refine XS.lushr X0.here hx rfl (hb hby d15_12) rfl ?_
        show Steps p.tables e below (s₁.setTop (mkF m 13 #[.val (.long q1), .second, .val (.int (q1.toInt32))] [(.long ((q1.toUInt64 >>> ((32 : Int32) &&& 0x3f).toInt64.toUInt64).toInt64)), (.int (32 : Int32))])) _
        refine XS.l2i X0.here hx rfl (hb hby d15_13) rfl ?_
        exact k)
    obtain ⟨_, _, ⟨T3, L3, k3, n3⟩, -, X3, ⟨Lc3, hQ3, l3, y3, z3⟩, st3⟩ := Jvm.LawKit.callS X0 hx (y := (⟨"java/lang/Integer", "numberOfTrailingZeros", "(I)I"⟩ : MethodName)) hown (mvT hZ (hw _ (List.mem_of_getElem? (i := 101) rfl))) (mvT hZ (hw _ (List.mem_of_getElem? (i := 102) rfl))) (mvT hZ (hw _ (List.mem_of_getElem? (i := 103) rfl))) (mvT hZ (hw _ (List.mem_of_getElem? (i := 104) rfl))) (by decide) (backOf (W := 1) (rm16 l Z a0 hw [] (((q1.toUInt64 >>> ((32 : Int32) &&& 0x3f).toInt64.toUInt64).toInt64).toInt32)  h0 n0 Z0 ) hZ (hw _ (List.mem_of_getElem? (i := 104) rfl)) (hw _ (List.mem_of_getElem? (i := 103) rfl)) (by decide) (by decide)) (g := (mkF m 14 #[.val (.long q1), .second, .val (.int (q1.toInt32))] [(.int (((q1.toUInt64 >>> ((32 : Int32) &&& 0x3f).toInt64.toUInt64).toInt64).toInt32)), (.int (32 : Int32))])) rfl (by rw [hml]; rfl) (argsL := [(.int (((q1.toUInt64 >>> ((32 : Int32) &&& 0x3f).toInt64.toUInt64).toInt64).toInt32))]) (rest := [(.int (32 : Int32))]) (lenOf pd_12 rfl) rfl (by show 2 * 0 + _ ≤ _; exact Nat.le_of_eq rfl) (hb hby d15_14) (fun _ _ => ⟨rfl, e0, (by decide : 0 + 0 ≤ _), (by decide : 0 + 0 ≤ _)⟩)
    dsimp only [Pt.U, Pt.locs, Pt.cells, Pt.slots] at X3 l3 y3 z3 st3 hQ3
    subst l3 y3 z3
    obtain ⟨rfl, N3q, Qe3⟩ := hQ3
    have N3 := Fr.app N0 N3q
    have ac4 : ∀ t, Steps p.tables e below (T3.setTop (mkF m 17 #[.val (.long q1), .second, .val (.int (q1.toInt32))] [(.int (own_ntz32 (own_hi32 q1))), (.int (32 : Int32))])) t → Steps p.tables e below (s₁.setTop (entryFrame m #[(.long q1)] 3)) t := fun t k => ac2 t (st3 t k)
    have ac5 : ∀ t, Steps p.tables e below (T3.setTop (mkF m 25 #[.val (.long q1), .second, .val (.int (q1.toInt32))] [(.int ((32 : Int32) + (own_ntz32 (own_hi32 q1))))])) t → Steps p.tables e below (s₁.setTop (entryFrame m #[(.long q1)] 3)) t := fun t k => ac4 t (by
        show Steps p.tables e below (T3.setTop (mkF m 17 #[.val (.long q1), .second, .val (.int (q1.toInt32))] [(.int (own_ntz32 (own_hi32 q1))), (.int (32 : Int32))])) _
        refine XS.iadd X3.here hx rfl (hb hby d15_17) rfl ?_
        show Steps p.tables e below (T3.setTop (mkF m 18 #[.val (.long q1), .second, .val (.int (q1.toInt32))] [(.int ((32 : Int32) + (own_ntz32 (own_hi32 q1))))])) _
        refine XS.goto X3.here hx rfl (pc0 := 18) (pc' := 25) rfl (hb hby d15_18) (by decide) (by decide) ?_
        exact k)
    obtain ⟨fs, hr, hrun, hended, hW, hsame⟩ := X3.leave (v := some (.int ((32 : Int32) + (own_ntz32 (own_hi32 q1))))) (fun h => by rw [Bd.returns] at h; cases h) (BodyLoose.notSynchronized Bd)
    refine ⟨_, _, ac5 _ ?_, hrun, hended, _, _, rfl, ?_, ⟨_, rfl⟩, hW, hsame.mono (by decide) (by decide)⟩
    · show Steps p.tables e below (T3.setTop (mkF m 25 #[.val (.long q1), .second, .val (.int (q1.toInt32))] [(.int ((32 : Int32) + (own_ntz32 (own_hi32 q1))))])) _
      exact retI X3 hx Bd.returns (hb hby d15_25) hr
    · show Q15 Z q1 h0 n0 _ T3.heap _
      rw [Qe3]
      exact ⟨(congrArg (fun z => some (Value.int z)) (own_ntzL_t hz)).symm, N3, rfl⟩
  ·
    have ac6 : ∀ t, Steps p.tables e below (s₁.setTop (mkF m 22 #[.val (.long q1), .second, .val (.int (q1.toInt32))] [(.int (q1.toInt32))])) t → Steps p.tables e below (s₁.setTop (entryFrame m #[(.long q1)] 3)) t := fun t k => ac1 t (by
        show Steps p.tables e below (s₁.setTop (mkF m 4 #[.val (.long q1), .second, .val (.int (q1.toInt32))] [(.int (q1.toInt32))])) _
        refine XS.ifYes X0.here hx rfl (pc0 := 4) (pc' := 21) rfl (hb hby d15_4) rfl ((if0 _ _).trans (feq hz).2) (by decide) (by decide) ?_
        show Steps p.tables e below (s₁.setTop (mkF m 21 #[.val (.long q1), .second, .val (.int (q1.toInt32))] [])) _
        refine XS.iloadN X0.here hx rfl (hb hby d15_21) rfl ?_
        exact k)
    obtain ⟨_, _, ⟨T7, L7, k7, n7⟩, -, X7, ⟨Lc7, hQ7, l7, y7, z7⟩, st7⟩ := Jvm.LawKit.callS X0 hx (y := (⟨"java/lang/Integer", "numberOfTrailingZeros", "(I)I"⟩ : MethodName)) hown (mvT hZ (hw _ (List.mem_of_getElem? (i := 101) rfl))) (mvT hZ (hw _ (List.mem_of_getElem? (i := 102) rfl))) (mvT hZ (hw _ (List.mem_of_getElem? (i := 103) rfl))) (mvT hZ (hw _ (List.mem_of_getElem? (i := 104) rfl))) (by decide) (backOf (W := 0) (rm16 l Z a0 hw [] (q1.toInt32)  h0 n0 Z0 ) hZ (hw _ (List.mem_of_getElem? (i := 104) rfl)) (hw _ (List.mem_of_getElem? (i := 103) rfl)) (by decide) (by decide)) (g := (mkF m 22 #[.val (.long q1), .second, .val (.int (q1.toInt32))] [(.int (q1.toInt32))])) rfl (by rw [hml]; rfl) (argsL := [(.int (q1.toInt32))]) (rest := []) (lenOf pd_12 rfl) rfl (by show 2 * 0 + _ ≤ _; exact Nat.le_of_eq rfl) (hb hby d15_22) (fun _ _ => ⟨rfl, e0, (by decide : 0 + 0 ≤ _), (by decide : 0 + 0 ≤ _)⟩)
    dsimp only [Pt.U, Pt.locs, Pt.cells, Pt.slots] at X7 l7 y7 z7 st7 hQ7
    subst l7 y7 z7
    obtain ⟨rfl, N7q, Qe7⟩ := hQ7
    have N7 := Fr.app N0 N7q
    have ac8 : ∀ t, Steps p.tables e below (T7.setTop (mkF m 25 #[.val (.long q1), .second, .val (.int (q1.toInt32))] [(.int (own_ntz32 (q1.toInt32)))])) t → Steps p.tables e below (s₁.setTop (entryFrame m #[(.long q1)] 3)) t := fun t k => ac6 t (st7 t k)
    obtain ⟨fs, hr, hrun, hended, hW, hsame⟩ := X7.leave (v := some (.int (own_ntz32 (q1.toInt32)))) (fun h => by rw [Bd.returns] at h; cases h) (BodyLoose.notSynchronized Bd)
    refine ⟨_, _, ac8 _ ?_, hrun, hended, _, _, rfl, ?_, ⟨_, rfl⟩, hW, hsame.mono (by decide) (by decide)⟩
    · show Steps p.tables e below (T7.setTop (mkF m 25 #[.val (.long q1), .second, .val (.int (q1.toInt32))] [(.int (own_ntz32 (q1.toInt32)))])) _
      exact retI X7 hx Bd.returns (hb hby d15_25) hr
    · show Q15 Z q1 h0 n0 _ T7.heap _
      rw [Qe7]
      exact ⟨(congrArg (fun z => some (Value.int z)) (own_ntzL_f hz)).symm, N7, rfl⟩
theorem ef_rm14 (m : MethodId) (x0 : Addr) (x1 : Int64) : entryFrame m #[(.ref x0), (.long x1)] 10 = mkF m 0 #[.val (.ref x0), .val (.long x1), .second, .unset, .unset, .unset, .unset, .unset, .unset, .unset] [] := by first | (simp [entryFrame, mkF, argsToLocals, Value.category]; done) | rfl
def Q14 (Z : State) (a1 : Addr) (q2 : Int64) (bU : Addr) (nU : Nat) (u : Nat → Int64) (cn : Nat) (h0 : Heap) (n0 : Nat) (v : Option Value) (h : Heap) (L : List Loc) : Prop := v = some (.long (own_ffv (own_wdL q2) (own_free (u (cn / 64)) q2.toInt32))) ∧ Fr n0 L ∧ h = h0
set_option maxRecDepth 65536 in
set_option maxHeartbeats 40000000 in
theorem rm14 (l : Launch) (Z : State) (a0 : Array Value) (hw : ∀ d ∈ tables_1, d.before a0 Z = true) (ws : List Jvm.Cond) (a1 : Addr) (q2 : Int64) (bU : Addr) (nU : Nat) (u : Nat → Int64) (cn : Nat) (h0 : Heap) (n0 : Nat) (Z0 : n0 ≤ h0.size) (F1 : Fld Z h0 a1 "com/example/twinbase/twinbase/CellSpace" "used" "[J" (.ref bU)) (V1 : own_Ar Z h0 bU .long nU (fun i => .long (u i))) (hq : q2.toInt = cn) (hc : cn < 2147483648) (hw6 : cn / 64 < nU) (hfr : ¬ own_free (u (cn / 64)) q2.toInt32 = 0) :
    MetFree l (⟨"com/example/twinbase/twinbase/CellSpace", "firstFree", "(J)J"⟩ : MethodName) (head1 (Jvm.Cond.code (⟨"com/example/twinbase/twinbase/CellSpace", "firstFree", "(J)J"⟩ : MethodName) prog_2_method_13_code 10 (some .long) :: ws) ({ frames := 2, cells := 0, slots := 0, locals := 30 } : Room)) (fun a U => a = #[(.ref a1), (.long q2)] ∧ Z.Warmed39 U.vm ∧ U.heap = h0) (fun _ _ _ _ _ => True) (fun _ U o U' => ∃ v L, o = .returned v ∧ Q14 Z a1 q2 bU nU u cn h0 n0 v U'.heap L ∧ FrameEnd U o U' L ({ frames := 2, cells := 0, slots := 0, locals := 30 } : Room).cells ({ frames := 2, cells := 0, slots := 0, locals := 30 } : Room).slots) := by
  refine MetFree.of_bodySF (plainFor_of_name pn_14) hisR ?_
  intro p e s m args below meth c s₁ Bd hml0 hP hK
  obtain ⟨rfl, hZ, hh⟩ := hP
  have hx := Bd.exec
  have hby := Bd.bytes
  have hml : c.maxLocals = 10 := hml0
  have hown : s.vm.findClass "com/example/twinbase/twinbase/CellSpace" = some m.cls := findClass_of_methodNamed Bd.named
  have hnm := (name_of_methodNamed Bd.named Bd.method).1
  have X0 : Stand p l e ({ frames := 2, cells := 0, slots := 0, locals := 30 } : Room) s m #[(.ref a1), (.long q2)] below meth c s₁ [] 0 0 := Stand.of_body Bd
  have e0 : s₁.heap = h0 := by rw [← hh, Bd.state]; rfl
  have N0 := Fr.nil n0
  have a0s : ∀ t, Steps p.tables e below (s₁.setTop (mkF m 0 #[.val (.ref a1), .val (.long q2), .second, .unset, .unset, .unset, .unset, .unset, .unset, .unset] [])) t → Steps p.tables e below (s₁.setTop (entryFrame m #[(.ref a1), (.long q2)] 10)) t := fun t k => castTop (ef_rm14 m a1 q2) k
  have ac1 : ∀ t, Steps p.tables e below (s₁.setTop (mkF m 5 #[.val (.ref a1), .val (.long q2), .second, .unset, .unset, .unset, .unset, .unset, .unset, .unset] [(.int (((q2.toUInt64 >>> ((6 : Int32) &&& 0x3f).toInt64.toUInt64).toInt64).toInt32))])) t → Steps p.tables e below (s₁.setTop (entryFrame m #[(.ref a1), (.long q2)] 10)) t := fun t k => a0s t (by
      show Steps p.tables e below (s₁.setTop (mkF m 0 #[.val (.ref a1), .val (.long q2), .second, .unset, .unset, .unset, .unset, .unset, .unset, .unset] [])) _
      refine XS.lloadN X0.here hx rfl (hb hby d14_0) rfl ?_
      show Steps p.tables e below (s₁.setTop (mkF m 1 #[.val (.ref a1), .val (.long q2), .second, .unset, .unset, .unset, .unset, .unset, .unset, .unset] [(.long q2)])) _
      refine XS.bipush X0.here hx rfl (hb hby d14_1) ?_
      show Steps p.tables e below (s₁.setTop (mkF m 3 #[.val (.ref a1), .val (.long q2), .second, .unset, .unset, .unset, .unset, .unset, .unset, .unset] [(.int (6 : Int32)), (.long q2)])) _
      refine XS.lushr X0.here hx rfl (hb hby d14_3) rfl ?_
      show Steps p.tables e below (s₁.setTop (mkF m 4 #[.val (.ref a1), .val (.long q2), .second, .unset, .unset, .unset, .unset, .unset, .unset, .unset] [(.long ((q2.toUInt64 >>> ((6 : Int32) &&& 0x3f).toInt64.toUInt64).toInt64))])) _
      refine XS.l2i X0.here hx rfl (hb hby d14_4) rfl ?_
      exact k)
  have ac2 : ∀ t, Steps p.tables e below (s₁.setTop (mkF m 5 #[.val (.ref a1), .val (.long q2), .second, .unset, .unset, .unset, .unset, .unset, .unset, .unset] [(.int (own_wdL q2))])) t → Steps p.tables e below (s₁.setTop (entryFrame m #[(.ref a1), (.long q2)] 10)) t := ac1
  have hwd := own_wdL_v hq hc
  have ac3 : ∀ t, Steps p.tables e below (s₁.setTop (mkF m 8 #[.val (.ref a1), .val (.long q2), .second, .val (.int (own_wdL q2)), .unset, .unset, .unset, .unset, .unset, .unset] [(.ref a1), (.int (own_wdL q2))])) t → Steps p.tables e below (s₁.setTop (entryFrame m #[(.ref a1), (.long q2)] 10)) t := fun t k => ac2 t (by
      show Steps p.tables e below (s₁.setTop (mkF m 5 #[.val (.ref a1), .val (.long q2), .second, .unset, .unset, .unset, .unset, .unset, .unset, .unset] [(.int (own_wdL q2))])) _
      refine XS.istoreN X0.here hx rfl (hb hby d14_5) rfl (l' := #[.val (.ref a1), .val (.long q2), .second, .val (.int (own_wdL q2)), .unset, .unset, .unset, .unset, .unset, .unset]) rfl ?_
      show Steps p.tables e below (s₁.setTop (mkF m 6 #[.val (.ref a1), .val (.long q2), .second, .val (.int (own_wdL q2)), .unset, .unset, .unset, .unset, .unset, .unset] [])) _
      refine XS.iloadN X0.here hx rfl (hb hby d14_6) rfl ?_
      show Steps p.tables e below (s₁.setTop (mkF m 7 #[.val (.ref a1), .val (.long q2), .second, .val (.int (own_wdL q2)), .unset, .unset, .unset, .unset, .unset, .unset] [(.int (own_wdL q2))])) _
      refine XS.aloadN X0.here hx rfl (hb hby d14_7) rfl rfl ?_
      exact k)
  obtain ⟨T4, X4, e4, st4⟩ := getF X0 hx hZ hown (host := "") (Or.inl (hw _ (List.mem_of_getElem? (i := 12) rfl))) Via.refl e0 F1 (g := (mkF m 8 #[.val (.ref a1), .val (.long q2), .second, .val (.int (own_wdL q2)), .unset, .unset, .unset, .unset, .unset, .unset] [(.ref a1), (.int (own_wdL q2))])) rfl rfl (hb hby d14_8)
  have ac5 : ∀ t, Steps p.tables e below (T4.setTop (mkF m 11 #[.val (.ref a1), .val (.long q2), .second, .val (.int (own_wdL q2)), .unset, .unset, .unset, .unset, .unset, .unset] [(.ref bU), (.int (own_wdL q2))])) t → Steps p.tables e below (s₁.setTop (entryFrame m #[(.ref a1), (.long q2)] 10)) t := fun t k => ac3 t (st4 t k)
  obtain ⟨cl6, Ac6, hl6, hb6⟩ := V1.len
  have hnU := own_ofNat hb6
  have ac7 : ∀ t, Steps p.tables e below (T4.setTop (mkF m 18 #[.val (.ref a1), .val (.long q2), .second, .val (.int (own_wdL q2)), .unset, .unset, .unset, .unset, .unset, .unset] [(.ref a1)])) t → Steps p.tables e below (s₁.setTop (entryFrame m #[(.ref a1), (.long q2)] 10)) t := fun t k => ac5 t (by
      show Steps p.tables e below (T4.setTop (mkF m 11 #[.val (.ref a1), .val (.long q2), .second, .val (.int (own_wdL q2)), .unset, .unset, .unset, .unset, .unset, .unset] [(.ref bU), (.int (own_wdL q2))])) _
      refine X4.arraylength hx (by rw [e4]; exact Ac6.1) (State.isArrayOf_alike hZ.alike Ac6.2.1) (g := (mkF m 11 #[.val (.ref a1), .val (.long q2), .second, .val (.int (own_wdL q2)), .unset, .unset, .unset, .unset, .unset, .unset] [(.ref bU), (.int (own_wdL q2))])) rfl rfl (hb hby d14_11) _ ?_
      rw [hl6]
      show Steps p.tables e below (T4.setTop (mkF m 12 #[.val (.ref a1), .val (.long q2), .second, .val (.int (own_wdL q2)), .unset, .unset, .unset, .unset, .unset, .unset] [(.int (Int32.ofNat nU)), (.int (own_wdL q2))])) _
      refine XS.icmpYes X4.here hx rfl (pc0 := 12) (pc' := 17) rfl (hb hby d14_12) rfl (tlt (own_lt_of (by omega))).1 (by decide) (by decide) ?_
      show Steps p.tables e below (T4.setTop (mkF m 17 #[.val (.ref a1), .val (.long q2), .second, .val (.int (own_wdL q2)), .unset, .unset, .unset, .unset, .unset, .unset] [])) _
      refine XS.aloadN X4.here hx rfl (hb hby d14_17) rfl rfl ?_
      exact k)
  obtain ⟨T8, X8, e8, st8⟩ := getF X4 hx hZ hown (host := "") (Or.inl (hw _ (List.mem_of_getElem? (i := 12) rfl))) Via.refl e4 F1 (g := (mkF m 18 #[.val (.ref a1), .val (.long q2), .second, .val (.int (own_wdL q2)), .unset, .unset, .unset, .unset, .unset, .unset] [(.ref a1)])) rfl rfl (hb hby d14_18)
  have ac9 : ∀ t, Steps p.tables e below (T8.setTop (mkF m 21 #[.val (.ref a1), .val (.long q2), .second, .val (.int (own_wdL q2)), .unset, .unset, .unset, .unset, .unset, .unset] [(.ref bU)])) t → Steps p.tables e below (s₁.setTop (entryFrame m #[(.ref a1), (.long q2)] 10)) t := fun t k => ac7 t (st8 t k)
  have ac10 : ∀ t, Steps p.tables e below (T8.setTop (mkF m 22 #[.val (.ref a1), .val (.long q2), .second, .val (.int (own_wdL q2)), .unset, .unset, .unset, .unset, .unset, .unset] [(.int (own_wdL q2)), (.ref bU)])) t → Steps p.tables e below (s₁.setTop (entryFrame m #[(.ref a1), (.long q2)] 10)) t := fun t k => ac9 t (by
      show Steps p.tables e below (T8.setTop (mkF m 21 #[.val (.ref a1), .val (.long q2), .second, .val (.int (own_wdL q2)), .unset, .unset, .unset, .unset, .unset, .unset] [(.ref bU)])) _
      refine XS.iloadN X8.here hx rfl (hb hby d14_21) rfl ?_
      exact k)
  obtain ⟨cl11, Ac11, hin11, hat11⟩ := V1.at (j := (own_wdL q2)) (i := (cn / 64)) hwd hw6
  have ac12 : ∀ t, Steps p.tables e below (T8.setTop (mkF m 34 #[.val (.ref a1), .val (.long q2), .second, .val (.int (own_wdL q2)), .unset, .unset, .unset, .unset, .unset, .unset] [(.long (((u (cn / 64)) ^^^ (-1 : Int64)) &&& ((-1 : Int64) <<< ((q2.toInt32) &&& 0x3f).toInt64)))])) t → Steps p.tables e below (s₁.setTop (entryFrame m #[(.ref a1), (.long q2)] 10)) t := fun t k => ac10 t (by
      show Steps p.tables e below (T8.setTop (mkF m 22 #[.val (.ref a1), .val (.long q2), .second, .val (.int (own_wdL q2)), .unset, .unset, .unset, .unset, .unset, .unset] [(.int (own_wdL q2)), (.ref bU)])) _
      refine X8.laload hx (j := (own_wdL q2)) (v := (.long (u (cn / 64)))) (by rw [e8]; exact Ac11.1) (State.isArrayOf_alike hZ.alike Ac11.2.1) Ac11.2.2 hin11 (hat11.trans (congrArg some rfl)) (g := (mkF m 22 #[.val (.ref a1), .val (.long q2), .second, .val (.int (own_wdL q2)), .unset, .unset, .unset, .unset, .unset, .unset] [(.int (own_wdL q2)), (.ref bU)])) rfl rfl (hb hby d14_22) _ ?_
      show Steps p.tables e below (T8.setTop (mkF m 23 #[.val (.ref a1), .val (.long q2), .second, .val (.int (own_wdL q2)), .unset, .unset, .unset, .unset, .unset, .unset] [(.long (u (cn / 64)))])) _
      refine X8.ldc2Long hx hown (mvT hZ (hw _ (List.mem_of_getElem? (i := 67) rfl))) (g := (mkF m 23 #[.val (.ref a1), .val (.long q2), .second, .val (.int (own_wdL q2)), .unset, .unset, .unset, .unset, .unset, .unset] [(.long (u (cn / 64)))])) rfl (hb hby d14_23) _ ?_
      show Steps p.tables e below (T8.setTop (mkF m 26 #[.val (.ref a1), .val (.long q2), .second, .val (.int (own_wdL q2)), .unset, .unset, .unset, .unset, .unset, .unset] [(.long (-1 : Int64)), (.long (u (cn / 64)))])) _
      refine XS.lxor X8.here hx rfl (hb hby d14_26) rfl ?_
      show Steps p.tables e below (T8.setTop (mkF m 27 #[.val (.ref a1), .val (.long q2), .second, .val (.int (own_wdL q2)), .unset, .unset, .unset, .unset, .unset, .unset] [(.long ((u (cn / 64)) ^^^ (-1 : Int64)))])) _
      refine X8.ldc2Long hx hown (mvT hZ (hw _ (List.mem_of_getElem? (i := 67) rfl))) (g := (mkF m 27 #[.val (.ref a1), .val (.long q2), .second, .val (.int (own_wdL q2)), .unset, .unset, .unset, .unset, .unset, .unset] [(.long ((u (cn / 64)) ^^^ (-1 : Int64)))])) rfl (hb hby d14_27) _ ?_
      show Steps p.tables e below (T8.setTop (mkF m 30 #[.val (.ref a1), .val (.long q2), .second, .val (.int (own_wdL q2)), .unset, .unset, .unset, .unset, .unset, .unset] [(.long (-1 : Int64)), (.long ((u (cn / 64)) ^^^ (-1 : Int64)))])) _
      refine XS.lloadN X8.here hx rfl (hb hby d14_30) rfl ?_
      show Steps p.tables e below (T8.setTop (mkF m 31 #[.val (.ref a1), .val (.long q2), .second, .val (.int (own_wdL q2)), .unset, .unset, .unset, .unset, .unset, .unset] [(.long q2), (.long (-1 : Int64)), (.long ((u (cn / 64)) ^^^ (-1 : Int64)))])) _
      refine XS.l2i X8.here hx rfl (hb hby d14_31) rfl ?_
      show Steps p.tables e below (T8.setTop (mkF m 32 #[.val (.ref a1), .val (.long q2), .second, .val (.int (own_wdL q2)), .unset, .unset, .unset, .unset, .unset, .unset] [(.int (q2.toInt32)), (.long (-1 : Int64)), (.long ((u (cn / 64)) ^^^ (-1 : Int64)))])) _
      refine XS.lshl X8.here hx rfl (hb hby d14_32) rfl ?_
      show Steps p.tables e below (T8.setTop (mkF m 33 #[.val (.ref a1), .val (.long q2), .second, .val (.int (own_wdL q2)), .unset, .unset, .unset, .unset, .unset, .unset] [(.long ((-1 : Int64) <<< ((q2.toInt32) &&& 0x3f).toInt64)), (.long ((u (cn / 64)) ^^^ (-1 : Int64)))])) _
      refine XS.land X8.here hx rfl (hb hby d14_33) rfl ?_
      exact k)
  have ac13 : ∀ t, Steps p.tables e below (T8.setTop (mkF m 34 #[.val (.ref a1), .val (.long q2), .second, .val (.int (own_wdL q2)), .unset, .unset, .unset, .unset, .unset, .unset] [(.long (own_free (u (cn / 64)) q2.toInt32))])) t → Steps p.tables e below (s₁.setTop (entryFrame m #[(.ref a1), (.long q2)] 10)) t := ac12
  have ac14 : ∀ t, Steps p.tables e below (T8.setTop (mkF m 50 #[.val (.ref a1), .val (.long q2), .second, .val (.int (own_wdL q2)), .val (.long (own_free (u (cn / 64)) q2.toInt32)), .second, .unset, .unset, .unset, .unset] [(.long (own_free (u (cn / 64)) q2.toInt32)), (.long (((own_wdL q2).toInt64) <<< ((6 : Int32) &&& 0x3f).toInt64))])) t → Steps p.tables e below (s₁.setTop (entryFrame m #[(.ref a1), (.long q2)] 10)) t := fun t k => ac13 t (by
      show Steps p.tables e below (T8.setTop (mkF m 34 #[.val (.ref a1), .val (.long q2), .second, .val (.int (own_wdL q2)), .unset, .unset, .unset, .unset, .unset, .unset] [(.long (own_free (u (cn / 64)) q2.toInt32))])) _
      refine XS.lstore X8.here hx rfl (hb hby d14_34) rfl (l' := #[.val (.ref a1), .val (.long q2), .second, .val (.int (own_wdL q2)), .val (.long (own_free (u (cn / 64)) q2.toInt32)), .second, .unset, .unset, .unset, .unset]) rfl ?_
      show Steps p.tables e below (T8.setTop (mkF m 36 #[.val (.ref a1), .val (.long q2), .second, .val (.int (own_wdL q2)), .val (.long (own_free (u (cn / 64)) q2.toInt32)), .second, .unset, .unset, .unset, .unset] [])) _
      refine XS.lload X8.here hx rfl (hb hby d14_36) rfl ?_
      show Steps p.tables e below (T8.setTop (mkF m 38 #[.val (.ref a1), .val (.long q2), .second, .val (.int (own_wdL q2)), .val (.long (own_free (u (cn / 64)) q2.toInt32)), .second, .unset, .unset, .unset, .unset] [(.long (own_free (u (cn / 64)) q2.toInt32))])) _
      refine XS.lconst X8.here hx rfl (hb hby d14_38) ?_
      show Steps p.tables e below (T8.setTop (mkF m 39 #[.val (.ref a1), .val (.long q2), .second, .val (.int (own_wdL q2)), .val (.long (own_free (u (cn / 64)) q2.toInt32)), .second, .unset, .unset, .unset, .unset] [(.long (0 : Int64)), (.long (own_free (u (cn / 64)) q2.toInt32))])) _
      refine XS.lcmp X8.here hx rfl (hb hby d14_39) rfl ?_
      show Steps p.tables e below (T8.setTop (mkF m 40 #[.val (.ref a1), .val (.long q2), .second, .val (.int (own_wdL q2)), .val (.long (own_free (u (cn / 64)) q2.toInt32)), .second, .unset, .unset, .unset, .unset] [(.int (lcmpW (own_free (u (cn / 64)) q2.toInt32) (0 : Int64)))])) _
      refine XS.ifNo X8.here hx rfl (hb hby d14_40) rfl ((if0 _ _).trans (feq (mt (lw_eq _ _).mp hfr)).1) ?_
      show Steps p.tables e below (T8.setTop (mkF m 43 #[.val (.ref a1), .val (.long q2), .second, .val (.int (own_wdL q2)), .val (.long (own_free (u (cn / 64)) q2.toInt32)), .second, .unset, .unset, .unset, .unset] [])) _
      refine XS.iloadN X8.here hx rfl (hb hby d14_43) rfl ?_
      show Steps p.tables e below (T8.setTop (mkF m 44 #[.val (.ref a1), .val (.long q2), .second, .val (.int (own_wdL q2)), .val (.long (own_free (u (cn / 64)) q2.toInt32)), .second, .unset, .unset, .unset, .unset] [(.int (own_wdL q2))])) _
      refine XS.i2l X8.here hx rfl (hb hby d14_44) rfl ?_
      show Steps p.tables e below (T8.setTop (mkF m 45 #[.val (.ref a1), .val (.long q2), .second, .val (.int (own_wdL q2)), .val (.long (own_free (u (cn / 64)) q2.toInt32)), .second, .unset, .unset, .unset, .unset] [(.long ((own_wdL q2).toInt64))])) _
      refine XS.bipush X8.here hx rfl (hb hby d14_45) ?_
      show Steps p.tables e below (T8.setTop (mkF m 47 #[.val (.ref a1), .val (.long q2), .second, .val (.int (own_wdL q2)), .val (.long (own_free (u (cn / 64)) q2.toInt32)), .second, .unset, .unset, .unset, .unset] [(.int (6 : Int32)), (.long ((own_wdL q2).toInt64))])) _
      refine XS.lshl X8.here hx rfl (hb hby d14_47) rfl ?_
      show Steps p.tables e below (T8.setTop (mkF m 48 #[.val (.ref a1), .val (.long q2), .second, .val (.int (own_wdL q2)), .val (.long (own_free (u (cn / 64)) q2.toInt32)), .second, .unset, .unset, .unset, .unset] [(.long (((own_wdL q2).toInt64) <<< ((6 : Int32) &&& 0x3f).toInt64))])) _
      refine XS.lload X8.here hx rfl (hb hby d14_48) rfl ?_
      exact k)
  obtain ⟨_, _, ⟨T15, L15, k15, n15⟩, -, X15, ⟨Lc15, hQ15, l15, y15, z15⟩, st15⟩ := Jvm.LawKit.callS X8 hx (y := (⟨"java/lang/Long", "numberOfTrailingZeros", "(J)I"⟩ : MethodName)) hown (mvT hZ (hw _ (List.mem_of_getElem? (i := 97) rfl))) (mvT hZ (hw _ (List.mem_of_getElem? (i := 98) rfl))) (mvT hZ (hw _ (List.mem_of_getElem? (i := 99) rfl))) (mvT hZ (hw _ (List.mem_of_getElem? (i := 100) rfl))) (by decide) (backOf (W := 2) (rm15 l Z a0 hw [] (own_free (u (cn / 64)) q2.toInt32)  h0 n0 Z0 ) hZ (hw _ (List.mem_of_getElem? (i := 100) rfl)) (hw _ (List.mem_of_getElem? (i := 99) rfl)) (by decide) (by decide)) (g := (mkF m 50 #[.val (.ref a1), .val (.long q2), .second, .val (.int (own_wdL q2)), .val (.long (own_free (u (cn / 64)) q2.toInt32)), .second, .unset, .unset, .unset, .unset] [(.long (own_free (u (cn / 64)) q2.toInt32)), (.long (((own_wdL q2).toInt64) <<< ((6 : Int32) &&& 0x3f).toInt64))])) rfl (by rw [hml]; rfl) (argsL := [(.long (own_free (u (cn / 64)) q2.toInt32))]) (rest := [(.long (((own_wdL q2).toInt64) <<< ((6 : Int32) &&& 0x3f).toInt64))]) (lenOf pd_11 rfl) rfl (by show 2 * 0 + _ ≤ _; exact Nat.le_of_eq rfl) (hb hby d14_50) (fun _ _ => ⟨rfl, e8, (by decide : 0 + 0 ≤ _), (by decide : 0 + 0 ≤ _)⟩)
  dsimp only [Pt.U, Pt.locs, Pt.cells, Pt.slots] at X15 l15 y15 z15 st15 hQ15
  subst l15 y15 z15
  obtain ⟨rfl, N15q, Qe15⟩ := hQ15
  have N15 := Fr.app N0 N15q
  have ac16 : ∀ t, Steps p.tables e below (T15.setTop (mkF m 53 #[.val (.ref a1), .val (.long q2), .second, .val (.int (own_wdL q2)), .val (.long (own_free (u (cn / 64)) q2.toInt32)), .second, .unset, .unset, .unset, .unset] [(.int (own_ntz64 (own_free (u (cn / 64)) q2.toInt32))), (.long (((own_wdL q2).toInt64) <<< ((6 : Int32) &&& 0x3f).toInt64))])) t → Steps p.tables e below (s₁.setTop (entryFrame m #[(.ref a1), (.long q2)] 10)) t := fun t k => ac14 t (st15 t k)
  have ac17 : ∀ t, Steps p.tables e below (T15.setTop (mkF m 55 #[.val (.ref a1), .val (.long q2), .second, .val (.int (own_wdL q2)), .val (.long (own_free (u (cn / 64)) q2.toInt32)), .second, .unset, .unset, .unset, .unset] [(.long ((((own_wdL q2).toInt64) <<< ((6 : Int32) &&& 0x3f).toInt64) ||| ((own_ntz64 (own_free (u (cn / 64)) q2.toInt32)).toInt64)))])) t → Steps p.tables e below (s₁.setTop (entryFrame m #[(.ref a1), (.long q2)] 10)) t := fun t k => ac16 t (by
      show Steps p.tables e below (T15.setTop (mkF m 53 #[.val (.ref a1), .val (.long q2), .second, .val (.int (own_wdL q2)), .val (.long (own_free (u (cn / 64)) q2.toInt32)), .second, .unset, .unset, .unset, .unset] [(.int (own_ntz64 (own_free (u (cn / 64)) q2.toInt32))), (.long (((own_wdL q2).toInt64) <<< ((6 : Int32) &&& 0x3f).toInt64))])) _
      refine XS.i2l X15.here hx rfl (hb hby d14_53) rfl ?_
      show Steps p.tables e below (T15.setTop (mkF m 54 #[.val (.ref a1), .val (.long q2), .second, .val (.int (own_wdL q2)), .val (.long (own_free (u (cn / 64)) q2.toInt32)), .second, .unset, .unset, .unset, .unset] [(.long ((own_ntz64 (own_free (u (cn / 64)) q2.toInt32)).toInt64)), (.long (((own_wdL q2).toInt64) <<< ((6 : Int32) &&& 0x3f).toInt64))])) _
      refine XS.lor X15.here hx rfl (hb hby d14_54) rfl ?_
      exact k)
  obtain ⟨fs, hr, hrun, hended, hW, hsame⟩ := X15.leave (v := some (.long ((((own_wdL q2).toInt64) <<< ((6 : Int32) &&& 0x3f).toInt64) ||| ((own_ntz64 (own_free (u (cn / 64)) q2.toInt32)).toInt64)))) (fun h => by rw [Bd.returns] at h; cases h) (BodyLoose.notSynchronized Bd)
  refine ⟨_, _, ac17 _ ?_, hrun, hended, _, _, rfl, ?_, ⟨_, rfl⟩, hW, hsame.mono (by decide) (by decide)⟩
  · show Steps p.tables e below (T15.setTop (mkF m 55 #[.val (.ref a1), .val (.long q2), .second, .val (.int (own_wdL q2)), .val (.long (own_free (u (cn / 64)) q2.toInt32)), .second, .unset, .unset, .unset, .unset] [(.long ((((own_wdL q2).toInt64) <<< ((6 : Int32) &&& 0x3f).toInt64) ||| ((own_ntz64 (own_free (u (cn / 64)) q2.toInt32)).toInt64)))])) _
    exact retOut X15 hx Bd.returns rfl (Or.inr (Or.inl ⟨rfl, rfl, _, rfl⟩)) (hb hby d14_55) hr
  · show Q14 Z a1 q2 bU nU u cn h0 n0 _ T15.heap _
    rw [Qe15]
    exact ⟨rfl, N15, rfl⟩
theorem ef_rm3 (m : MethodId) (x0 : Addr) (x1 : Int32) : entryFrame m #[(.ref x0), (.int x1)] 4 = mkF m 0 #[.val (.ref x0), .val (.int x1), .unset, .unset] [] := by first | (simp [entryFrame, mkF, argsToLocals, Value.category]; done) | rfl
def Q3 (Z : State) (a1 : Addr) (p2 : Int32) (low : Int32) (sz : Int32) (bC : Addr) (bU : Addr) (bF : Addr) (bR : Addr) (nC : Nat) (nU : Nat) (nF : Nat) (fC : Nat → Value) (u : Nat → Int64) (ff : Nat → Int64) (r : Nat → Int32) (cp : Nat) (frv : Int64) (h0 : Heap) (n0 : Nat) (v : Option Value) (h : Heap) (L : List Loc) : Prop := ∃ (bC' : Addr) (bU' : Addr) (bF' : Addr) (fC' : Nat → Value) (ff' : Nat → Int64) (ln : Nat), v = none ∧ Fr n0 L ∧ Keep h0 h [a1] ∧ cp ≤ ln ∧ nC ≤ ln ∧ ln ≤ 1024 ∧ (ln = cp ∨ ln = 2 * nC) ∧ h0.size ≤ bU' ∧ own_C Z h n0 a1 low sz bC' bU' bF' bR ln ((ln + 63) / 64) (((ln + 63) / 64 + 63) / 64) fC' u ff' r
set_option maxRecDepth 65536 in
set_option maxHeartbeats 40000000 in
theorem rm3 (l : Launch) (Z : State) (a0 : Array Value) (hw : ∀ d ∈ tables_1, d.before a0 Z = true) (ws : List Jvm.Cond) (a1 : Addr) (p2 : Int32) (low : Int32) (sz : Int32) (bC : Addr) (bU : Addr) (bF : Addr) (bR : Addr) (nC : Nat) (nU : Nat) (nF : Nat) (fC : Nat → Value) (u : Nat → Int64) (ff : Nat → Int64) (r : Nat → Int32) (cp : Nat) (frv : Int64) (h0 : Heap) (n0 : Nat) (Z0 : n0 ≤ h0.size) (HB : own_C Z h0 n0 a1 low sz bC bU bF bR nC nU nF fC u ff r) (hnU : nU = (nC + 63) / 64) (hnF : nF = (nU + 63) / 64) (hp : p2.toInt = cp) (h1 : cp ≤ 1024) (h2 : 2 * nC ≤ 1024) (hz : ∀ i, nU ≤ i → u i = 0) (g_a1 : n0 ≤ a1) (Sf : Sta Z h0 "com/example/twinbase/twinbase/DoubleArray" "FREE" "J" (.long frv)) :
    MetFree l (⟨"com/example/twinbase/twinbase/CellSpace", "grow", "(I)V"⟩ : MethodName) (head1 (Jvm.Cond.code (⟨"com/example/twinbase/twinbase/CellSpace", "grow", "(I)V"⟩ : MethodName) prog_2_method_15_code 4 none :: ws) ({ frames := 2, cells := 3, slots := 1041, locals := 33 } : Room)) (fun a U => a = #[(.ref a1), (.int p2)] ∧ Z.Warmed39 U.vm ∧ U.heap = h0) (fun _ _ _ _ _ => True) (fun _ U o U' => ∃ v L, o = .returned v ∧ Q3 Z a1 p2 low sz bC bU bF bR nC nU nF fC u ff r cp frv h0 n0 v U'.heap L ∧ FrameEnd U o U' L ({ frames := 2, cells := 3, slots := 1041, locals := 33 } : Room).cells ({ frames := 2, cells := 3, slots := 1041, locals := 33 } : Room).slots) := by
  refine MetFree.of_bodySF (plainFor_of_name pn_3) hisR ?_
  intro p e s m args below meth c s₁ Bd hml0 hP hK
  obtain ⟨rfl, hZ, hh⟩ := hP
  have hx := Bd.exec
  have hby := Bd.bytes
  have hml : c.maxLocals = 4 := hml0
  have hown : s.vm.findClass "com/example/twinbase/twinbase/CellSpace" = some m.cls := findClass_of_methodNamed Bd.named
  have hnm := (name_of_methodNamed Bd.named Bd.method).1
  have X0 : Stand p l e ({ frames := 2, cells := 3, slots := 1041, locals := 33 } : Room) s m #[(.ref a1), (.int p2)] below meth c s₁ [] 0 0 := Stand.of_body Bd
  have e0 : s₁.heap = h0 := by rw [← hh, Bd.state]; rfl
  have N0 := Fr.nil n0
  have a0s : ∀ t, Steps p.tables e below (s₁.setTop (mkF m 0 #[.val (.ref a1), .val (.int p2), .unset, .unset] [])) t → Steps p.tables e below (s₁.setTop (entryFrame m #[(.ref a1), (.int p2)] 4)) t := fun t k => castTop (ef_rm3 m a1 p2) k
  obtain ⟨E1, F_0, F_1, F_2, F_3, F_lo, F_sz, V_0, V_1, V_2, V_3, E_C, E_U, E_F, ne_a1_bC, ne_a1_bU, ne_a1_bF, ne_a1_bR, ne_bC_bU, ne_bC_bF, ne_bC_bR, ne_bU_bF, ne_bU_bR, ne_bF_bR, g_bC, g_bU, g_bF, g_bR⟩ := id HB
  have zm : (2147483646 : Int32).toInt = 2147483646 := rfl
  have ac1 : ∀ t, Steps p.tables e below (s₁.setTop (mkF m 11 #[.val (.ref a1), .val (.int p2), .unset, .unset] [(.ref a1)])) t → Steps p.tables e below (s₁.setTop (entryFrame m #[(.ref a1), (.int p2)] 4)) t := fun t k => a0s t (by
      show Steps p.tables e below (s₁.setTop (mkF m 0 #[.val (.ref a1), .val (.int p2), .unset, .unset] [])) _
      refine XS.iloadN X0.here hx rfl (hb hby d3_0) rfl ?_
      show Steps p.tables e below (s₁.setTop (mkF m 1 #[.val (.ref a1), .val (.int p2), .unset, .unset] [(.int p2)])) _
      refine X0.ldcInt hx hown (mvT hZ (hw _ (List.mem_of_getElem? (i := 23) rfl))) (g := (mkF m 1 #[.val (.ref a1), .val (.int p2), .unset, .unset] [(.int p2)])) rfl (hb hby d3_1) _ ?_
      show Steps p.tables e below (s₁.setTop (mkF m 3 #[.val (.ref a1), .val (.int p2), .unset, .unset] [(.int (2147483646 : Int32)), (.int p2)])) _
      refine XS.icmpYes X0.here hx rfl (pc0 := 3) (pc' := 10) rfl (hb hby d3_3) rfl (flt (own_nlt_of (by omega))).2.2.2 (by decide) (by decide) ?_
      show Steps p.tables e below (s₁.setTop (mkF m 10 #[.val (.ref a1), .val (.int p2), .unset, .unset] [])) _
      refine XS.aloadN X0.here hx rfl (hb hby d3_10) rfl rfl ?_
      exact k)
  obtain ⟨T2, X2, e2, st2⟩ := getF X0 hx hZ hown (host := "") (Or.inl (hw _ (List.mem_of_getElem? (i := 10) rfl))) Via.refl e0 F_0 (g := (mkF m 11 #[.val (.ref a1), .val (.int p2), .unset, .unset] [(.ref a1)])) rfl rfl (hb hby d3_11)
  have ac3 : ∀ t, Steps p.tables e below (T2.setTop (mkF m 14 #[.val (.ref a1), .val (.int p2), .unset, .unset] [(.ref bC)])) t → Steps p.tables e below (s₁.setTop (entryFrame m #[(.ref a1), (.int p2)] 4)) t := fun t k => ac1 t (st2 t k)
  obtain ⟨cl4, Ac4, hl4, hb4⟩ := V_0.len
  have hnC := own_ofNat hb4
  have ac5 : ∀ t, Steps p.tables e below (T2.setTop (mkF m 27 #[.val (.ref a1), .val (.int p2), .val (.int (Int32.ofNat nC)), .unset] [(.long ((2 : Int64) * ((Int32.ofNat nC).toInt64))), (.long (p2.toInt64)), (.long (2147483646 : Int64))])) t → Steps p.tables e below (s₁.setTop (entryFrame m #[(.ref a1), (.int p2)] 4)) t := fun t k => ac3 t (by
      show Steps p.tables e below (T2.setTop (mkF m 14 #[.val (.ref a1), .val (.int p2), .unset, .unset] [(.ref bC)])) _
      refine X2.arraylength hx (by rw [e2]; exact Ac4.1) (State.isArrayOf_alike hZ.alike Ac4.2.1) (g := (mkF m 14 #[.val (.ref a1), .val (.int p2), .unset, .unset] [(.ref bC)])) rfl rfl (hb hby d3_14) _ ?_
      rw [hl4]
      show Steps p.tables e below (T2.setTop (mkF m 15 #[.val (.ref a1), .val (.int p2), .unset, .unset] [(.int (Int32.ofNat nC))])) _
      refine XS.istoreN X2.here hx rfl (hb hby d3_15) rfl (l' := #[.val (.ref a1), .val (.int p2), .val (.int (Int32.ofNat nC)), .unset]) rfl ?_
      show Steps p.tables e below (T2.setTop (mkF m 16 #[.val (.ref a1), .val (.int p2), .val (.int (Int32.ofNat nC)), .unset] [])) _
      refine X2.ldc2Long hx hown (mvT hZ (hw _ (List.mem_of_getElem? (i := 24) rfl))) (g := (mkF m 16 #[.val (.ref a1), .val (.int p2), .val (.int (Int32.ofNat nC)), .unset] [])) rfl (hb hby d3_16) _ ?_
      show Steps p.tables e below (T2.setTop (mkF m 19 #[.val (.ref a1), .val (.int p2), .val (.int (Int32.ofNat nC)), .unset] [(.long (2147483646 : Int64))])) _
      refine XS.iloadN X2.here hx rfl (hb hby d3_19) rfl ?_
      show Steps p.tables e below (T2.setTop (mkF m 20 #[.val (.ref a1), .val (.int p2), .val (.int (Int32.ofNat nC)), .unset] [(.int p2), (.long (2147483646 : Int64))])) _
      refine XS.i2l X2.here hx rfl (hb hby d3_20) rfl ?_
      show Steps p.tables e below (T2.setTop (mkF m 21 #[.val (.ref a1), .val (.int p2), .val (.int (Int32.ofNat nC)), .unset] [(.long (p2.toInt64)), (.long (2147483646 : Int64))])) _
      refine X2.ldc2Long hx hown (mvT hZ (hw _ (List.mem_of_getElem? (i := 25) rfl))) (g := (mkF m 21 #[.val (.ref a1), .val (.int p2), .val (.int (Int32.ofNat nC)), .unset] [(.long (p2.toInt64)), (.long (2147483646 : Int64))])) rfl (hb hby d3_21) _ ?_
      show Steps p.tables e below (T2.setTop (mkF m 24 #[.val (.ref a1), .val (.int p2), .val (.int (Int32.ofNat nC)), .unset] [(.long (2 : Int64)), (.long (p2.toInt64)), (.long (2147483646 : Int64))])) _
      refine XS.iloadN X2.here hx rfl (hb hby d3_24) rfl ?_
      show Steps p.tables e below (T2.setTop (mkF m 25 #[.val (.ref a1), .val (.int p2), .val (.int (Int32.ofNat nC)), .unset] [(.int (Int32.ofNat nC)), (.long (2 : Int64)), (.long (p2.toInt64)), (.long (2147483646 : Int64))])) _
      refine XS.i2l X2.here hx rfl (hb hby d3_25) rfl ?_
      show Steps p.tables e below (T2.setTop (mkF m 26 #[.val (.ref a1), .val (.int p2), .val (.int (Int32.ofNat nC)), .unset] [(.long ((Int32.ofNat nC).toInt64)), (.long (2 : Int64)), (.long (p2.toInt64)), (.long (2147483646 : Int64))])) _
      refine XS.lmul X2.here hx rfl (hb hby d3_26) rfl ?_
      exact k)
  obtain ⟨_, _, ⟨T6, L6, k6, n6⟩, -, X6, ⟨Lc6, hQ6, l6, y6, z6⟩, st6⟩ := Jvm.LawKit.callS X2 hx (y := (⟨"java/lang/Math", "max", "(JJ)J"⟩ : MethodName)) hown (mvT hZ (hw _ (List.mem_of_getElem? (i := 26) rfl))) (mvT hZ (hw _ (List.mem_of_getElem? (i := 27) rfl))) (mvT hZ (hw _ (List.mem_of_getElem? (i := 28) rfl))) (mvT hZ (hw _ (List.mem_of_getElem? (i := 29) rfl))) (by decide) (backOf (W := 2) (rm4 l Z a0 hw [] (p2.toInt64) ((2 : Int64) * ((Int32.ofNat nC).toInt64))  h0 n0 Z0 ) hZ (hw _ (List.mem_of_getElem? (i := 29) rfl)) (hw _ (List.mem_of_getElem? (i := 28) rfl)) (by decide) (by decide)) (g := (mkF m 27 #[.val (.ref a1), .val (.int p2), .val (.int (Int32.ofNat nC)), .unset] [(.long ((2 : Int64) * ((Int32.ofNat nC).toInt64))), (.long (p2.toInt64)), (.long (2147483646 : Int64))])) rfl (by rw [hml]; rfl) (argsL := [(.long (p2.toInt64)), (.long ((2 : Int64) * ((Int32.ofNat nC).toInt64)))]) (rest := [(.long (2147483646 : Int64))]) (lenOf pd_2 rfl) rfl (by show 2 * 0 + _ ≤ _; exact Nat.le_of_eq rfl) (hb hby d3_27) (fun _ _ => ⟨rfl, e2, (by decide : 0 + 0 ≤ _), (by decide : 0 + 0 ≤ _)⟩)
  dsimp only [Pt.U, Pt.locs, Pt.cells, Pt.slots] at X6 l6 y6 z6 st6 hQ6
  subst l6 y6 z6
  obtain ⟨rfl, N6q, Qe6⟩ := hQ6
  have N6 := Fr.app N0 N6q
  have ac7 : ∀ t, Steps p.tables e below (T6.setTop (mkF m 30 #[.val (.ref a1), .val (.int p2), .val (.int (Int32.ofNat nC)), .unset] [(.long (own_maxL (p2.toInt64) ((2 : Int64) * ((Int32.ofNat nC).toInt64)))), (.long (2147483646 : Int64))])) t → Steps p.tables e below (s₁.setTop (entryFrame m #[(.ref a1), (.int p2)] 4)) t := fun t k => ac5 t (st6 t k)
  obtain ⟨_, _, ⟨T8, L8, k8, n8⟩, -, X8, ⟨Lc8, hQ8, l8, y8, z8⟩, st8⟩ := Jvm.LawKit.callS X6 hx (y := (⟨"java/lang/Math", "min", "(JJ)J"⟩ : MethodName)) hown (mvT hZ (hw _ (List.mem_of_getElem? (i := 30) rfl))) (mvT hZ (hw _ (List.mem_of_getElem? (i := 31) rfl))) (mvT hZ (hw _ (List.mem_of_getElem? (i := 28) rfl))) (mvT hZ (hw _ (List.mem_of_getElem? (i := 32) rfl))) (by decide) (backOf (W := 0) (rm5 l Z a0 hw [] (2147483646 : Int64) (own_maxL (p2.toInt64) ((2 : Int64) * ((Int32.ofNat nC).toInt64)))  h0 n0 Z0 ) hZ (hw _ (List.mem_of_getElem? (i := 32) rfl)) (hw _ (List.mem_of_getElem? (i := 28) rfl)) (by decide) (by decide)) (g := (mkF m 30 #[.val (.ref a1), .val (.int p2), .val (.int (Int32.ofNat nC)), .unset] [(.long (own_maxL (p2.toInt64) ((2 : Int64) * ((Int32.ofNat nC).toInt64)))), (.long (2147483646 : Int64))])) rfl (by rw [hml]; rfl) (argsL := [(.long (2147483646 : Int64)), (.long (own_maxL (p2.toInt64) ((2 : Int64) * ((Int32.ofNat nC).toInt64))))]) (rest := []) (lenOf pd_2 rfl) rfl (by show 2 * 0 + _ ≤ _; exact Nat.le_of_eq rfl) (hb hby d3_30) (fun _ _ => ⟨rfl, Qe6, (by decide : 0 + 0 ≤ _), (by decide : 0 + 0 ≤ _)⟩)
  dsimp only [Pt.U, Pt.locs, Pt.cells, Pt.slots] at X8 l8 y8 z8 st8 hQ8
  subst l8 y8 z8
  obtain ⟨rfl, N8q, Qe8⟩ := hQ8
  have N8 := Fr.app N6 N8q
  have ac9 : ∀ t, Steps p.tables e below (T8.setTop (mkF m 33 #[.val (.ref a1), .val (.int p2), .val (.int (Int32.ofNat nC)), .unset] [(.long (own_minL (2147483646 : Int64) (own_maxL (p2.toInt64) ((2 : Int64) * ((Int32.ofNat nC).toInt64)))))])) t → Steps p.tables e below (s₁.setTop (entryFrame m #[(.ref a1), (.int p2)] 4)) t := fun t k => ac7 t (st8 t k)
  have ac10 : ∀ t, Steps p.tables e below (T8.setTop (mkF m 34 #[.val (.ref a1), .val (.int p2), .val (.int (Int32.ofNat nC)), .unset] [(.int ((own_minL (2147483646 : Int64) (own_maxL (p2.toInt64) ((2 : Int64) * ((Int32.ofNat nC).toInt64)))).toInt32))])) t → Steps p.tables e below (s₁.setTop (entryFrame m #[(.ref a1), (.int p2)] 4)) t := fun t k => ac9 t (by
      show Steps p.tables e below (T8.setTop (mkF m 33 #[.val (.ref a1), .val (.int p2), .val (.int (Int32.ofNat nC)), .unset] [(.long (own_minL (2147483646 : Int64) (own_maxL (p2.toInt64) ((2 : Int64) * ((Int32.ofNat nC).toInt64)))))])) _
      refine XS.l2i X8.here hx rfl (hb hby d3_33) rfl ?_
      exact k)
  have ac11 : ∀ t, Steps p.tables e below (T8.setTop (mkF m 34 #[.val (.ref a1), .val (.int p2), .val (.int (Int32.ofNat nC)), .unset] [(.int (own_gl p2 nC))])) t → Steps p.tables e below (s₁.setTop (entryFrame m #[(.ref a1), (.int p2)] 4)) t := ac10
  obtain ⟨ln, hgl, hl1, hl2, hl3, hl4⟩ := own_gl_v hp h1 h2
  have ac12 : ∀ t, Steps p.tables e below (T8.setTop (mkF m 37 #[.val (.ref a1), .val (.int p2), .val (.int (Int32.ofNat nC)), .val (.int (own_gl p2 nC))] [(.ref a1), (.ref a1)])) t → Steps p.tables e below (s₁.setTop (entryFrame m #[(.ref a1), (.int p2)] 4)) t := fun t k => ac11 t (by
      show Steps p.tables e below (T8.setTop (mkF m 34 #[.val (.ref a1), .val (.int p2), .val (.int (Int32.ofNat nC)), .unset] [(.int (own_gl p2 nC))])) _
      refine XS.istoreN X8.here hx rfl (hb hby d3_34) rfl (l' := #[.val (.ref a1), .val (.int p2), .val (.int (Int32.ofNat nC)), .val (.int (own_gl p2 nC))]) rfl ?_
      show Steps p.tables e below (T8.setTop (mkF m 35 #[.val (.ref a1), .val (.int p2), .val (.int (Int32.ofNat nC)), .val (.int (own_gl p2 nC))] [])) _
      refine XS.aloadN X8.here hx rfl (hb hby d3_35) rfl rfl ?_
      show Steps p.tables e below (T8.setTop (mkF m 36 #[.val (.ref a1), .val (.int p2), .val (.int (Int32.ofNat nC)), .val (.int (own_gl p2 nC))] [(.ref a1)])) _
      refine XS.aloadN X8.here hx rfl (hb hby d3_36) rfl rfl ?_
      exact k)
  obtain ⟨T13, X13, e13, st13⟩ := getF X8 hx hZ hown (host := "") (Or.inl (hw _ (List.mem_of_getElem? (i := 10) rfl))) Via.refl Qe8 F_0 (g := (mkF m 37 #[.val (.ref a1), .val (.int p2), .val (.int (Int32.ofNat nC)), .val (.int (own_gl p2 nC))] [(.ref a1), (.ref a1)])) rfl rfl (hb hby d3_37)
  have ac14 : ∀ t, Steps p.tables e below (T13.setTop (mkF m 40 #[.val (.ref a1), .val (.int p2), .val (.int (Int32.ofNat nC)), .val (.int (own_gl p2 nC))] [(.ref bC), (.ref a1)])) t → Steps p.tables e below (s₁.setTop (entryFrame m #[(.ref a1), (.int p2)] 4)) t := fun t k => ac12 t (st13 t k)
  have ac15 : ∀ t, Steps p.tables e below (T13.setTop (mkF m 41 #[.val (.ref a1), .val (.int p2), .val (.int (Int32.ofNat nC)), .val (.int (own_gl p2 nC))] [(.int (own_gl p2 nC)), (.ref bC), (.ref a1)])) t → Steps p.tables e below (s₁.setTop (entryFrame m #[(.ref a1), (.int p2)] 4)) t := fun t k => ac14 t (by
      show Steps p.tables e below (T13.setTop (mkF m 40 #[.val (.ref a1), .val (.int p2), .val (.int (Int32.ofNat nC)), .val (.int (own_gl p2 nC))] [(.ref bC), (.ref a1)])) _
      refine XS.iloadN X13.here hx rfl (hb hby d3_40) rfl ?_
      exact k)
  obtain ⟨_, _, ⟨T16, L16, k16, n16⟩, -, X16, ⟨Lc16, hQ16, l16, y16, z16⟩, st16⟩ := Jvm.LawKit.callS X13 hx (y := (⟨"java/util/Arrays", "copyOf", "([JI)[J"⟩ : MethodName)) hown (mvT hZ (hw _ (List.mem_of_getElem? (i := 33) rfl))) (mvT hZ (hw _ (List.mem_of_getElem? (i := 34) rfl))) (mvT hZ (hw _ (List.mem_of_getElem? (i := 35) rfl))) (mvT hZ (hw _ (List.mem_of_getElem? (i := 36) rfl))) (by decide) (backOf (W := 1) (rm6 l Z a0 hw [] bC (own_gl p2 nC) nC ln _ h0 n0 Z0 V_0 E_C hgl (by omega) (by omega)) hZ (hw _ (List.mem_of_getElem? (i := 36) rfl)) (hw _ (List.mem_of_getElem? (i := 35) rfl)) (by decide) (by decide)) (g := (mkF m 41 #[.val (.ref a1), .val (.int p2), .val (.int (Int32.ofNat nC)), .val (.int (own_gl p2 nC))] [(.int (own_gl p2 nC)), (.ref bC), (.ref a1)])) rfl (by rw [hml]; rfl) (argsL := [(.ref bC), (.int (own_gl p2 nC))]) (rest := [(.ref a1)]) (lenOf pd_3 rfl) rfl (by show 2 * 0 + _ ≤ _; exact Nat.le_of_eq rfl) (hb hby d3_41) (fun _ _ => ⟨rfl, e13, (by decide : 0 + 1 ≤ _), (by decide : 0 + 1024 ≤ _)⟩)
  dsimp only [Pt.U, Pt.locs, Pt.cells, Pt.slots] at X16 l16 y16 z16 st16 hQ16
  subst l16 y16 z16
  obtain ⟨r16, rfl, N16q, K16q, sz16, Vr16, Er16⟩ := hQ16
  have N16 := Fr.app N8 N16q
  have Ef17 := E1.keep K16q
  have Ff18 := F_lo.keep K16q nin0
  have Ff19 := F_sz.keep K16q nin0
  have Ff20 := F_0.keep K16q nin0
  have Ff21 := F_1.keep K16q nin0
  have Ff22 := F_2.keep K16q nin0
  have Ff23 := F_3.keep K16q nin0
  have Vf24 := V_0.keep K16q nin0
  have Vf25 := V_1.keep K16q nin0
  have Vf26 := V_2.keep K16q nin0
  have Vf27 := V_3.keep K16q nin0
  have Ef28 := E_C.keep K16q
  have Ef29 := E_U.keep K16q
  have Ef30 := E_F.keep K16q
  have Z16 : n0 ≤ T16.heap.size := Nat.le_trans Z0 K16q.1
  have Kp31 : Keep h0 T16.heap [a1] := (Keep.refl h0 [a1]).trans K16q all0
  have g_r16 : n0 ≤ r16 := Nat.le_trans Z0 sz16
  have sz_r16 : h0.size ≤ r16 := Nat.le_trans (Keep.refl h0 [a1]).1 sz16
  have ne_a1_r16 : a1 ≠ r16 := Nat.ne_of_lt (Nat.lt_of_lt_of_le E1.lt sz16)
  have ne_bC_r16 : bC ≠ r16 := Nat.ne_of_lt (Nat.lt_of_lt_of_le V_0.lt sz16)
  have ne_bU_r16 : bU ≠ r16 := Nat.ne_of_lt (Nat.lt_of_lt_of_le V_1.lt sz16)
  have ne_bF_r16 : bF ≠ r16 := Nat.ne_of_lt (Nat.lt_of_lt_of_le V_2.lt sz16)
  have ne_bR_r16 : bR ≠ r16 := Nat.ne_of_lt (Nat.lt_of_lt_of_le V_3.lt sz16)
  have ac32 : ∀ t, Steps p.tables e below (T16.setTop (mkF m 44 #[.val (.ref a1), .val (.int p2), .val (.int (Int32.ofNat nC)), .val (.int (own_gl p2 nC))] [(.ref r16), (.ref a1)])) t → Steps p.tables e below (s₁.setTop (entryFrame m #[(.ref a1), (.int p2)] 4)) t := fun t k => ac15 t (st16 t k)
  obtain ⟨T33, h33, X33, e33, W33, st33⟩ := putF X16 hx hZ hown (host := "") (Or.inl (hw _ (List.mem_of_getElem? (i := 10) rfl))) Via.refl rfl Ff20 Ef17 (Or.inl (hw _ (List.mem_of_getElem? (i := 11) rfl))) (hw _ (List.mem_of_getElem? (i := 1) rfl)) (ty := (.array .long)) (by decide) rfl rfl (g := (mkF m 44 #[.val (.ref a1), .val (.int p2), .val (.int (Int32.ofNat nC)), .val (.int (own_gl p2 nC))] [(.ref r16), (.ref a1)])) rfl rfl (hb hby d3_44)
  have Fw33 := Ff20.same W33
  have Ef34 := Ef17.wr W33
  have Ff35 := Ff18.other W33 (Or.inr (slot_ne (Or.inl (hw _ (List.mem_of_getElem? (i := 74) rfl))) (Or.inl (hw _ (List.mem_of_getElem? (i := 11) rfl))) (by decide) (t := .int) (t' := (.array .long)) (by decide) (by decide)))
  have Ff36 := Ff19.other W33 (Or.inr (slot_ne (Or.inl (hw _ (List.mem_of_getElem? (i := 69) rfl))) (Or.inl (hw _ (List.mem_of_getElem? (i := 11) rfl))) (by decide) (t := .int) (t' := (.array .long)) (by decide) (by decide)))
  have Ff37 := Ff21.other W33 (Or.inr (slot_ne (Or.inl (hw _ (List.mem_of_getElem? (i := 13) rfl))) (Or.inl (hw _ (List.mem_of_getElem? (i := 11) rfl))) (by decide) (t := (.array .long)) (t' := (.array .long)) (by decide) (by decide)))
  have Ff38 := Ff22.other W33 (Or.inr (slot_ne (Or.inl (hw _ (List.mem_of_getElem? (i := 15) rfl))) (Or.inl (hw _ (List.mem_of_getElem? (i := 11) rfl))) (by decide) (t := (.array .long)) (t' := (.array .long)) (by decide) (by decide)))
  have Ff39 := Ff23.other W33 (Or.inr (slot_ne (Or.inr (hw _ (List.mem_of_getElem? (i := 18) rfl))) (Or.inl (hw _ (List.mem_of_getElem? (i := 11) rfl))) (by decide) (t := (.array .int)) (t' := (.array .long)) (by decide) (by decide)))
  have Vf40 := Vf25.other W33 (Ne.symm ne_a1_bU)
  have Vf41 := Vf26.other W33 (Ne.symm ne_a1_bF)
  have Vf42 := Vf27.other W33 (Ne.symm ne_a1_bR)
  have Ef43 := Ef29.wr W33
  have Ef44 := Ef30.wr W33
  have Vf45 := Vr16.other W33 (Ne.symm ne_a1_r16)
  have Ef46 := Er16.wr W33
  have N33 := Fr.snoc X33 N16 g_a1
  have Z33 : n0 ≤ h33.size := Nat.le_trans Z16 (Keep.of_wr W33).1
  have Kp47 : Keep h0 h33 [a1] := Kp31.wr W33 (Or.inl (List.mem_of_getElem? (i := 0) rfl))
  have ac48 : ∀ t, Steps p.tables e below (T33.setTop (mkF m 47 #[.val (.ref a1), .val (.int p2), .val (.int (Int32.ofNat nC)), .val (.int (own_gl p2 nC))] [])) t → Steps p.tables e below (s₁.setTop (entryFrame m #[(.ref a1), (.int p2)] 4)) t := fun t k => ac32 t (st33 t k)
  have ac49 : ∀ t, Steps p.tables e below (T33.setTop (mkF m 48 #[.val (.ref a1), .val (.int p2), .val (.int (Int32.ofNat nC)), .val (.int (own_gl p2 nC))] [(.ref a1)])) t → Steps p.tables e below (s₁.setTop (entryFrame m #[(.ref a1), (.int p2)] 4)) t := fun t k => ac48 t (by
      show Steps p.tables e below (T33.setTop (mkF m 47 #[.val (.ref a1), .val (.int p2), .val (.int (Int32.ofNat nC)), .val (.int (own_gl p2 nC))] [])) _
      refine XS.aloadN X33.here hx rfl (hb hby d3_47) rfl rfl ?_
      exact k)
  obtain ⟨T50, X50, e50, st50⟩ := getF X33 hx hZ hown (host := "") (Or.inl (hw _ (List.mem_of_getElem? (i := 10) rfl))) Via.refl e33 Fw33 (g := (mkF m 48 #[.val (.ref a1), .val (.int p2), .val (.int (Int32.ofNat nC)), .val (.int (own_gl p2 nC))] [(.ref a1)])) rfl rfl (hb hby d3_48)
  have ac51 : ∀ t, Steps p.tables e below (T50.setTop (mkF m 51 #[.val (.ref a1), .val (.int p2), .val (.int (Int32.ofNat nC)), .val (.int (own_gl p2 nC))] [(.ref r16)])) t → Steps p.tables e below (s₁.setTop (entryFrame m #[(.ref a1), (.int p2)] 4)) t := fun t k => ac49 t (st50 t k)
  have ac52 : ∀ t, Steps p.tables e below (T50.setTop (mkF m 53 #[.val (.ref a1), .val (.int p2), .val (.int (Int32.ofNat nC)), .val (.int (own_gl p2 nC))] [(.int (own_gl p2 nC)), (.int (Int32.ofNat nC)), (.ref r16)])) t → Steps p.tables e below (s₁.setTop (entryFrame m #[(.ref a1), (.int p2)] 4)) t := fun t k => ac51 t (by
      show Steps p.tables e below (T50.setTop (mkF m 51 #[.val (.ref a1), .val (.int p2), .val (.int (Int32.ofNat nC)), .val (.int (own_gl p2 nC))] [(.ref r16)])) _
      refine XS.iloadN X50.here hx rfl (hb hby d3_51) rfl ?_
      show Steps p.tables e below (T50.setTop (mkF m 52 #[.val (.ref a1), .val (.int p2), .val (.int (Int32.ofNat nC)), .val (.int (own_gl p2 nC))] [(.int (Int32.ofNat nC)), (.ref r16)])) _
      refine XS.iloadN X50.here hx rfl (hb hby d3_52) rfl ?_
      exact k)
  obtain ⟨T53, X53, e53, st53⟩ := getS2 X50 hx hZ hown (host := "") (Or.inl (hw _ (List.mem_of_getElem? (i := 46) rfl))) Via.refl e50 (own_Sta_keep1 Sf Kp47 (allS (own_cellE E1) all0)) (g := (mkF m 53 #[.val (.ref a1), .val (.int p2), .val (.int (Int32.ofNat nC)), .val (.int (own_gl p2 nC))] [(.int (own_gl p2 nC)), (.int (Int32.ofNat nC)), (.ref r16)])) rfl (hb hby d3_53)
  have ac54 : ∀ t, Steps p.tables e below (T53.setTop (mkF m 56 #[.val (.ref a1), .val (.int p2), .val (.int (Int32.ofNat nC)), .val (.int (own_gl p2 nC))] [(.long frv), (.int (own_gl p2 nC)), (.int (Int32.ofNat nC)), (.ref r16)])) t → Steps p.tables e below (s₁.setTop (entryFrame m #[(.ref a1), (.int p2)] 4)) t := fun t k => ac52 t (st53 t k)
  obtain ⟨_, _, ⟨T55, L55, k55, n55⟩, -, X55, ⟨Lc55, hQ55, l55, y55, z55⟩, st55⟩ := Jvm.LawKit.callS X53 hx (y := (⟨"java/util/Arrays", "fill", "([JIIJ)V"⟩ : MethodName)) hown (mvT hZ (hw _ (List.mem_of_getElem? (i := 49) rfl))) (mvT hZ (hw _ (List.mem_of_getElem? (i := 50) rfl))) (mvT hZ (hw _ (List.mem_of_getElem? (i := 35) rfl))) (mvT hZ (hw _ (List.mem_of_getElem? (i := 51) rfl))) (by decide) (backOf (W := 0) (rm7 l Z a0 hw [] r16 (Int32.ofNat nC) (own_gl p2 nC) frv ln nC ln _ h33 n0 Z33 Vf45 g_r16 hnC hgl hl2 (Nat.le_refl _)) hZ (hw _ (List.mem_of_getElem? (i := 51) rfl)) (hw _ (List.mem_of_getElem? (i := 35) rfl)) (by decide) (by decide)) (g := (mkF m 56 #[.val (.ref a1), .val (.int p2), .val (.int (Int32.ofNat nC)), .val (.int (own_gl p2 nC))] [(.long frv), (.int (own_gl p2 nC)), (.int (Int32.ofNat nC)), (.ref r16)])) rfl (by rw [hml]; rfl) (argsL := [(.ref r16), (.int (Int32.ofNat nC)), (.int (own_gl p2 nC)), (.long frv)]) (rest := []) (lenOf pd_5 rfl) rfl (by show 2 * 0 + _ ≤ _; exact Nat.le_of_eq rfl) (hb hby d3_56) (fun _ _ => ⟨rfl, e53, (by decide : 1 + 0 ≤ _), (by decide : 1024 + 0 ≤ _)⟩)
  dsimp only [Pt.U, Pt.locs, Pt.cells, Pt.slots] at X55 l55 y55 z55 st55 hQ55
  subst l55 y55 z55
  obtain ⟨rfl, N55q, K55q, Vf55⟩ := hQ55
  have N55 := Fr.app N33 N55q
  have Ef56 := Ef34.keep K55q
  have Ff57 := Ff35.keep K55q (ninS ne_a1_r16 nin0)
  have Ff58 := Ff36.keep K55q (ninS ne_a1_r16 nin0)
  have Ff59 := Ff37.keep K55q (ninS ne_a1_r16 nin0)
  have Ff60 := Ff38.keep K55q (ninS ne_a1_r16 nin0)
  have Ff61 := Ff39.keep K55q (ninS ne_a1_r16 nin0)
  have Vf62 := Vf40.keep K55q (ninS ne_bU_r16 nin0)
  have Vf63 := Vf41.keep K55q (ninS ne_bF_r16 nin0)
  have Vf64 := Vf42.keep K55q (ninS ne_bR_r16 nin0)
  have Ef65 := Ef43.keep K55q
  have Ef66 := Ef44.keep K55q
  have Ef67 := Ef46.keep K55q
  have Ff68 := Fw33.keep K55q (ninS ne_a1_r16 nin0)
  have Z55 : n0 ≤ T55.heap.size := Nat.le_trans Z33 K55q.1
  have Kp69 : Keep h0 T55.heap [a1] := Kp47.trans K55q (allS (Or.inr sz_r16) all0)
  have ac70 : ∀ t, Steps p.tables e below (T55.setTop (mkF m 59 #[.val (.ref a1), .val (.int p2), .val (.int (Int32.ofNat nC)), .val (.int (own_gl p2 nC))] [])) t → Steps p.tables e below (s₁.setTop (entryFrame m #[(.ref a1), (.int p2)] 4)) t := fun t k => ac54 t (st55 t k)
  have ac71 : ∀ t, Steps p.tables e below (T55.setTop (mkF m 61 #[.val (.ref a1), .val (.int p2), .val (.int (Int32.ofNat nC)), .val (.int (own_gl p2 nC))] [(.ref a1), (.ref a1)])) t → Steps p.tables e below (s₁.setTop (entryFrame m #[(.ref a1), (.int p2)] 4)) t := fun t k => ac70 t (by
      show Steps p.tables e below (T55.setTop (mkF m 59 #[.val (.ref a1), .val (.int p2), .val (.int (Int32.ofNat nC)), .val (.int (own_gl p2 nC))] [])) _
      refine XS.aloadN X55.here hx rfl (hb hby d3_59) rfl rfl ?_
      show Steps p.tables e below (T55.setTop (mkF m 60 #[.val (.ref a1), .val (.int p2), .val (.int (Int32.ofNat nC)), .val (.int (own_gl p2 nC))] [(.ref a1)])) _
      refine XS.aloadN X55.here hx rfl (hb hby d3_60) rfl rfl ?_
      exact k)
  obtain ⟨T72, X72, e72, st72⟩ := getF X55 hx hZ hown (host := "") (Or.inl (hw _ (List.mem_of_getElem? (i := 12) rfl))) Via.refl rfl Ff59 (g := (mkF m 61 #[.val (.ref a1), .val (.int p2), .val (.int (Int32.ofNat nC)), .val (.int (own_gl p2 nC))] [(.ref a1), (.ref a1)])) rfl rfl (hb hby d3_61)
  have ac73 : ∀ t, Steps p.tables e below (T72.setTop (mkF m 64 #[.val (.ref a1), .val (.int p2), .val (.int (Int32.ofNat nC)), .val (.int (own_gl p2 nC))] [(.ref bU), (.ref a1)])) t → Steps p.tables e below (s₁.setTop (entryFrame m #[(.ref a1), (.int p2)] 4)) t := fun t k => ac71 t (st72 t k)
  have hw1 := own_w64 hgl (by omega)
  have ac74 : ∀ t, Steps p.tables e below (T72.setTop (mkF m 71 #[.val (.ref a1), .val (.int p2), .val (.int (Int32.ofNat nC)), .val (.int (own_gl p2 nC))] [(.int (((own_gl p2 nC) + (63 : Int32)) / (64 : Int32))), (.ref bU), (.ref a1)])) t → Steps p.tables e below (s₁.setTop (entryFrame m #[(.ref a1), (.int p2)] 4)) t := fun t k => ac73 t (by
      show Steps p.tables e below (T72.setTop (mkF m 64 #[.val (.ref a1), .val (.int p2), .val (.int (Int32.ofNat nC)), .val (.int (own_gl p2 nC))] [(.ref bU), (.ref a1)])) _
      refine XS.iloadN X72.here hx rfl (hb hby d3_64) rfl ?_
      show Steps p.tables e below (T72.setTop (mkF m 65 #[.val (.ref a1), .val (.int p2), .val (.int (Int32.ofNat nC)), .val (.int (own_gl p2 nC))] [(.int (own_gl p2 nC)), (.ref bU), (.ref a1)])) _
      refine XS.bipush X72.here hx rfl (hb hby d3_65) ?_
      show Steps p.tables e below (T72.setTop (mkF m 67 #[.val (.ref a1), .val (.int p2), .val (.int (Int32.ofNat nC)), .val (.int (own_gl p2 nC))] [(.int (63 : Int32)), (.int (own_gl p2 nC)), (.ref bU), (.ref a1)])) _
      refine XS.iadd X72.here hx rfl (hb hby d3_67) rfl ?_
      show Steps p.tables e below (T72.setTop (mkF m 68 #[.val (.ref a1), .val (.int p2), .val (.int (Int32.ofNat nC)), .val (.int (own_gl p2 nC))] [(.int ((own_gl p2 nC) + (63 : Int32))), (.ref bU), (.ref a1)])) _
      refine XS.bipush X72.here hx rfl (hb hby d3_68) ?_
      show Steps p.tables e below (T72.setTop (mkF m 70 #[.val (.ref a1), .val (.int p2), .val (.int (Int32.ofNat nC)), .val (.int (own_gl p2 nC))] [(.int (64 : Int32)), (.int ((own_gl p2 nC) + (63 : Int32))), (.ref bU), (.ref a1)])) _
      refine XS.idiv X72.here hx rfl (hb hby d3_70) rfl (by decide) ?_
      exact k)
  obtain ⟨_, _, ⟨T75, L75, k75, n75⟩, -, X75, ⟨Lc75, hQ75, l75, y75, z75⟩, st75⟩ := Jvm.LawKit.callS X72 hx (y := (⟨"java/util/Arrays", "copyOf", "([JI)[J"⟩ : MethodName)) hown (mvT hZ (hw _ (List.mem_of_getElem? (i := 33) rfl))) (mvT hZ (hw _ (List.mem_of_getElem? (i := 34) rfl))) (mvT hZ (hw _ (List.mem_of_getElem? (i := 35) rfl))) (mvT hZ (hw _ (List.mem_of_getElem? (i := 36) rfl))) (by decide) (backOf (W := 1) (rm6u l Z a0 hw [] bU (((own_gl p2 nC) + (63 : Int32)) / (64 : Int32)) nU ((ln + 63) / 64) _ T55.heap n0 Z55 Vf62 Ef65 hw1 (by omega) (by omega)) hZ (hw _ (List.mem_of_getElem? (i := 36) rfl)) (hw _ (List.mem_of_getElem? (i := 35) rfl)) (by decide) (by decide)) (g := (mkF m 71 #[.val (.ref a1), .val (.int p2), .val (.int (Int32.ofNat nC)), .val (.int (own_gl p2 nC))] [(.int (((own_gl p2 nC) + (63 : Int32)) / (64 : Int32))), (.ref bU), (.ref a1)])) rfl (by rw [hml]; rfl) (argsL := [(.ref bU), (.int (((own_gl p2 nC) + (63 : Int32)) / (64 : Int32)))]) (rest := [(.ref a1)]) (lenOf pd_3 rfl) rfl (by show 2 * 0 + _ ≤ _; exact Nat.le_of_eq rfl) (hb hby d3_71) (fun _ _ => ⟨rfl, e72, (by decide : 1 + 1 ≤ _), (by decide : 1024 + 16 ≤ _)⟩)
  dsimp only [Pt.U, Pt.locs, Pt.cells, Pt.slots] at X75 l75 y75 z75 st75 hQ75
  subst l75 y75 z75
  obtain ⟨r75, rfl, N75q, K75q, sz75, Vr75, Er75⟩ := hQ75
  have N75 := Fr.app N55 N75q
  have Ef76 := Ef56.keep K75q
  have Ff77 := Ff57.keep K75q nin0
  have Ff78 := Ff58.keep K75q nin0
  have Ff79 := Ff59.keep K75q nin0
  have Ff80 := Ff60.keep K75q nin0
  have Ff81 := Ff61.keep K75q nin0
  have Vf82 := Vf62.keep K75q nin0
  have Vf83 := Vf63.keep K75q nin0
  have Vf84 := Vf64.keep K75q nin0
  have Ef85 := Ef65.keep K75q
  have Ef86 := Ef66.keep K75q
  have Ef87 := Ef67.keep K75q
  have Ff88 := Ff68.keep K75q nin0
  have Vf89 := Vf55.keep K75q nin0
  have Z75 : n0 ≤ T75.heap.size := Nat.le_trans Z55 K75q.1
  have Kp90 : Keep h0 T75.heap [a1] := Kp69.trans K75q all0
  have g_r75 : n0 ≤ r75 := Nat.le_trans Z55 sz75
  have sz_r75 : h0.size ≤ r75 := Nat.le_trans Kp69.1 sz75
  have ne_a1_r75 : a1 ≠ r75 := Nat.ne_of_lt (Nat.lt_of_lt_of_le Ef56.lt sz75)
  have ne_bU_r75 : bU ≠ r75 := Nat.ne_of_lt (Nat.lt_of_lt_of_le Vf62.lt sz75)
  have ne_bF_r75 : bF ≠ r75 := Nat.ne_of_lt (Nat.lt_of_lt_of_le Vf63.lt sz75)
  have ne_bR_r75 : bR ≠ r75 := Nat.ne_of_lt (Nat.lt_of_lt_of_le Vf64.lt sz75)
  have ne_r16_r75 : r16 ≠ r75 := Nat.ne_of_lt (Nat.lt_of_lt_of_le Ef67.lt sz75)
  have ac91 : ∀ t, Steps p.tables e below (T75.setTop (mkF m 74 #[.val (.ref a1), .val (.int p2), .val (.int (Int32.ofNat nC)), .val (.int (own_gl p2 nC))] [(.ref r75), (.ref a1)])) t → Steps p.tables e below (s₁.setTop (entryFrame m #[(.ref a1), (.int p2)] 4)) t := fun t k => ac74 t (st75 t k)
  obtain ⟨T92, h92, X92, e92, W92, st92⟩ := putF X75 hx hZ hown (host := "") (Or.inl (hw _ (List.mem_of_getElem? (i := 12) rfl))) Via.refl rfl Ff79 Ef76 (Or.inl (hw _ (List.mem_of_getElem? (i := 13) rfl))) (hw _ (List.mem_of_getElem? (i := 1) rfl)) (ty := (.array .long)) (by decide) rfl rfl (g := (mkF m 74 #[.val (.ref a1), .val (.int p2), .val (.int (Int32.ofNat nC)), .val (.int (own_gl p2 nC))] [(.ref r75), (.ref a1)])) rfl rfl (hb hby d3_74)
  have Fw92 := Ff79.same W92
  have Ef93 := Ef76.wr W92
  have Ff94 := Ff77.other W92 (Or.inr (slot_ne (Or.inl (hw _ (List.mem_of_getElem? (i := 74) rfl))) (Or.inl (hw _ (List.mem_of_getElem? (i := 13) rfl))) (by decide) (t := .int) (t' := (.array .long)) (by decide) (by decide)))
  have Ff95 := Ff78.other W92 (Or.inr (slot_ne (Or.inl (hw _ (List.mem_of_getElem? (i := 69) rfl))) (Or.inl (hw _ (List.mem_of_getElem? (i := 13) rfl))) (by decide) (t := .int) (t' := (.array .long)) (by decide) (by decide)))
  have Ff96 := Ff80.other W92 (Or.inr (slot_ne (Or.inl (hw _ (List.mem_of_getElem? (i := 15) rfl))) (Or.inl (hw _ (List.mem_of_getElem? (i := 13) rfl))) (by decide) (t := (.array .long)) (t' := (.array .long)) (by decide) (by decide)))
  have Ff97 := Ff81.other W92 (Or.inr (slot_ne (Or.inr (hw _ (List.mem_of_getElem? (i := 18) rfl))) (Or.inl (hw _ (List.mem_of_getElem? (i := 13) rfl))) (by decide) (t := (.array .int)) (t' := (.array .long)) (by decide) (by decide)))
  have Vf98 := Vf83.other W92 (Ne.symm ne_a1_bF)
  have Vf99 := Vf84.other W92 (Ne.symm ne_a1_bR)
  have Ef100 := Ef86.wr W92
  have Ef101 := Ef87.wr W92
  have Ff102 := Ff88.other W92 (Or.inr (slot_ne (Or.inl (hw _ (List.mem_of_getElem? (i := 11) rfl))) (Or.inl (hw _ (List.mem_of_getElem? (i := 13) rfl))) (by decide) (t := (.array .long)) (t' := (.array .long)) (by decide) (by decide)))
  have Vf103 := Vf89.other W92 (Ne.symm ne_a1_r16)
  have Vf104 := Vr75.other W92 (Ne.symm ne_a1_r75)
  have Ef105 := Er75.wr W92
  have N92 := Fr.snoc X92 N75 g_a1
  have Z92 : n0 ≤ h92.size := Nat.le_trans Z75 (Keep.of_wr W92).1
  have Kp106 : Keep h0 h92 [a1] := Kp90.wr W92 (Or.inl (List.mem_of_getElem? (i := 0) rfl))
  have ac107 : ∀ t, Steps p.tables e below (T92.setTop (mkF m 77 #[.val (.ref a1), .val (.int p2), .val (.int (Int32.ofNat nC)), .val (.int (own_gl p2 nC))] [])) t → Steps p.tables e below (s₁.setTop (entryFrame m #[(.ref a1), (.int p2)] 4)) t := fun t k => ac91 t (st92 t k)
  have ac108 : ∀ t, Steps p.tables e below (T92.setTop (mkF m 79 #[.val (.ref a1), .val (.int p2), .val (.int (Int32.ofNat nC)), .val (.int (own_gl p2 nC))] [(.ref a1), (.ref a1)])) t → Steps p.tables e below (s₁.setTop (entryFrame m #[(.ref a1), (.int p2)] 4)) t := fun t k => ac107 t (by
      show Steps p.tables e below (T92.setTop (mkF m 77 #[.val (.ref a1), .val (.int p2), .val (.int (Int32.ofNat nC)), .val (.int (own_gl p2 nC))] [])) _
      refine XS.aloadN X92.here hx rfl (hb hby d3_77) rfl rfl ?_
      show Steps p.tables e below (T92.setTop (mkF m 78 #[.val (.ref a1), .val (.int p2), .val (.int (Int32.ofNat nC)), .val (.int (own_gl p2 nC))] [(.ref a1)])) _
      refine XS.aloadN X92.here hx rfl (hb hby d3_78) rfl rfl ?_
      exact k)
  obtain ⟨T109, X109, e109, st109⟩ := getF X92 hx hZ hown (host := "") (Or.inl (hw _ (List.mem_of_getElem? (i := 14) rfl))) Via.refl e92 Ff96 (g := (mkF m 79 #[.val (.ref a1), .val (.int p2), .val (.int (Int32.ofNat nC)), .val (.int (own_gl p2 nC))] [(.ref a1), (.ref a1)])) rfl rfl (hb hby d3_79)
  have ac110 : ∀ t, Steps p.tables e below (T109.setTop (mkF m 82 #[.val (.ref a1), .val (.int p2), .val (.int (Int32.ofNat nC)), .val (.int (own_gl p2 nC))] [(.ref bF), (.ref a1)])) t → Steps p.tables e below (s₁.setTop (entryFrame m #[(.ref a1), (.int p2)] 4)) t := fun t k => ac108 t (st109 t k)
  have ac111 : ∀ t, Steps p.tables e below (T109.setTop (mkF m 83 #[.val (.ref a1), .val (.int p2), .val (.int (Int32.ofNat nC)), .val (.int (own_gl p2 nC))] [(.ref a1), (.ref bF), (.ref a1)])) t → Steps p.tables e below (s₁.setTop (entryFrame m #[(.ref a1), (.int p2)] 4)) t := fun t k => ac110 t (by
      show Steps p.tables e below (T109.setTop (mkF m 82 #[.val (.ref a1), .val (.int p2), .val (.int (Int32.ofNat nC)), .val (.int (own_gl p2 nC))] [(.ref bF), (.ref a1)])) _
      refine XS.aloadN X109.here hx rfl (hb hby d3_82) rfl rfl ?_
      exact k)
  obtain ⟨T112, X112, e112, st112⟩ := getF X109 hx hZ hown (host := "") (Or.inl (hw _ (List.mem_of_getElem? (i := 12) rfl))) Via.refl e109 Fw92 (g := (mkF m 83 #[.val (.ref a1), .val (.int p2), .val (.int (Int32.ofNat nC)), .val (.int (own_gl p2 nC))] [(.ref a1), (.ref bF), (.ref a1)])) rfl rfl (hb hby d3_83)
  have ac113 : ∀ t, Steps p.tables e below (T112.setTop (mkF m 86 #[.val (.ref a1), .val (.int p2), .val (.int (Int32.ofNat nC)), .val (.int (own_gl p2 nC))] [(.ref r75), (.ref bF), (.ref a1)])) t → Steps p.tables e below (s₁.setTop (entryFrame m #[(.ref a1), (.int p2)] 4)) t := fun t k => ac111 t (st112 t k)
  obtain ⟨cl114, Ac114, hl114, hb114⟩ := Vf104.len
  have hnU2 := own_ofNat hb114
  have hw2 := own_w64 hnU2 (by omega)
  have V115 : own_Ar Z h92 r75 .long ((ln + 63) / 64) (fun i => .long (u i)) := Vf104.eq (fun i hi => by by_cases q : i < nU; exact if_pos q; rw [if_neg q, hz i (by omega)])
  have ac116 : ∀ t, Steps p.tables e below (T112.setTop (mkF m 93 #[.val (.ref a1), .val (.int p2), .val (.int (Int32.ofNat nC)), .val (.int (own_gl p2 nC))] [(.int (((Int32.ofNat ((ln + 63) / 64)) + (63 : Int32)) / (64 : Int32))), (.ref bF), (.ref a1)])) t → Steps p.tables e below (s₁.setTop (entryFrame m #[(.ref a1), (.int p2)] 4)) t := fun t k => ac113 t (by
      show Steps p.tables e below (T112.setTop (mkF m 86 #[.val (.ref a1), .val (.int p2), .val (.int (Int32.ofNat nC)), .val (.int (own_gl p2 nC))] [(.ref r75), (.ref bF), (.ref a1)])) _
      refine X112.arraylength hx (by rw [e112]; exact Ac114.1) (State.isArrayOf_alike hZ.alike Ac114.2.1) (g := (mkF m 86 #[.val (.ref a1), .val (.int p2), .val (.int (Int32.ofNat nC)), .val (.int (own_gl p2 nC))] [(.ref r75), (.ref bF), (.ref a1)])) rfl rfl (hb hby d3_86) _ ?_
      rw [hl114]
      show Steps p.tables e below (T112.setTop (mkF m 87 #[.val (.ref a1), .val (.int p2), .val (.int (Int32.ofNat nC)), .val (.int (own_gl p2 nC))] [(.int (Int32.ofNat ((ln + 63) / 64))), (.ref bF), (.ref a1)])) _
      refine XS.bipush X112.here hx rfl (hb hby d3_87) ?_
      show Steps p.tables e below (T112.setTop (mkF m 89 #[.val (.ref a1), .val (.int p2), .val (.int (Int32.ofNat nC)), .val (.int (own_gl p2 nC))] [(.int (63 : Int32)), (.int (Int32.ofNat ((ln + 63) / 64))), (.ref bF), (.ref a1)])) _
      refine XS.iadd X112.here hx rfl (hb hby d3_89) rfl ?_
      show Steps p.tables e below (T112.setTop (mkF m 90 #[.val (.ref a1), .val (.int p2), .val (.int (Int32.ofNat nC)), .val (.int (own_gl p2 nC))] [(.int ((Int32.ofNat ((ln + 63) / 64)) + (63 : Int32))), (.ref bF), (.ref a1)])) _
      refine XS.bipush X112.here hx rfl (hb hby d3_90) ?_
      show Steps p.tables e below (T112.setTop (mkF m 92 #[.val (.ref a1), .val (.int p2), .val (.int (Int32.ofNat nC)), .val (.int (own_gl p2 nC))] [(.int (64 : Int32)), (.int ((Int32.ofNat ((ln + 63) / 64)) + (63 : Int32))), (.ref bF), (.ref a1)])) _
      refine XS.idiv X112.here hx rfl (hb hby d3_92) rfl (by decide) ?_
      exact k)
  obtain ⟨_, _, ⟨T117, L117, k117, n117⟩, -, X117, ⟨Lc117, hQ117, l117, y117, z117⟩, st117⟩ := Jvm.LawKit.callS X112 hx (y := (⟨"java/util/Arrays", "copyOf", "([JI)[J"⟩ : MethodName)) hown (mvT hZ (hw _ (List.mem_of_getElem? (i := 33) rfl))) (mvT hZ (hw _ (List.mem_of_getElem? (i := 34) rfl))) (mvT hZ (hw _ (List.mem_of_getElem? (i := 35) rfl))) (mvT hZ (hw _ (List.mem_of_getElem? (i := 36) rfl))) (by decide) (backOf (W := 1) (rm6f l Z a0 hw [] bF (((Int32.ofNat ((ln + 63) / 64)) + (63 : Int32)) / (64 : Int32)) nF (((ln + 63) / 64 + 63) / 64) _ h92 n0 Z92 Vf98 Ef100 hw2 (by omega) (by omega)) hZ (hw _ (List.mem_of_getElem? (i := 36) rfl)) (hw _ (List.mem_of_getElem? (i := 35) rfl)) (by decide) (by decide)) (g := (mkF m 93 #[.val (.ref a1), .val (.int p2), .val (.int (Int32.ofNat nC)), .val (.int (own_gl p2 nC))] [(.int (((Int32.ofNat ((ln + 63) / 64)) + (63 : Int32)) / (64 : Int32))), (.ref bF), (.ref a1)])) rfl (by rw [hml]; rfl) (argsL := [(.ref bF), (.int (((Int32.ofNat ((ln + 63) / 64)) + (63 : Int32)) / (64 : Int32)))]) (rest := [(.ref a1)]) (lenOf pd_3 rfl) rfl (by show 2 * 0 + _ ≤ _; exact Nat.le_of_eq rfl) (hb hby d3_93) (fun _ _ => ⟨rfl, e112, (by decide : 2 + 1 ≤ _), (by decide : 1040 + 1 ≤ _)⟩)
  dsimp only [Pt.U, Pt.locs, Pt.cells, Pt.slots] at X117 l117 y117 z117 st117 hQ117
  subst l117 y117 z117
  obtain ⟨r117, rfl, N117q, K117q, sz117, Vr117, Er117⟩ := hQ117
  have N117 := Fr.app N92 N117q
  have Ef118 := Ef93.keep K117q
  have Ff119 := Ff94.keep K117q nin0
  have Ff120 := Ff95.keep K117q nin0
  have Ff121 := Ff96.keep K117q nin0
  have Ff122 := Ff97.keep K117q nin0
  have Vf123 := Vf98.keep K117q nin0
  have Vf124 := Vf99.keep K117q nin0
  have Ef125 := Ef100.keep K117q
  have Ef126 := Ef101.keep K117q
  have Ff127 := Ff102.keep K117q nin0
  have Vf128 := Vf103.keep K117q nin0
  have Vf129 := V115.keep K117q nin0
  have Ef130 := Ef105.keep K117q
  have Ff131 := Fw92.keep K117q nin0
  have Z117 : n0 ≤ T117.heap.size := Nat.le_trans Z92 K117q.1
  have Kp132 : Keep h0 T117.heap [a1] := Kp106.trans K117q all0
  have g_r117 : n0 ≤ r117 := Nat.le_trans Z92 sz117
  have sz_r117 : h0.size ≤ r117 := Nat.le_trans Kp106.1 sz117
  have ne_a1_r117 : a1 ≠ r117 := Nat.ne_of_lt (Nat.lt_of_lt_of_le Ef93.lt sz117)
  have ne_bF_r117 : bF ≠ r117 := Nat.ne_of_lt (Nat.lt_of_lt_of_le Vf98.lt sz117)
  have ne_bR_r117 : bR ≠ r117 := Nat.ne_of_lt (Nat.lt_of_lt_of_le Vf99.lt sz117)
  have ne_r16_r117 : r16 ≠ r117 := Nat.ne_of_lt (Nat.lt_of_lt_of_le Ef101.lt sz117)
  have ne_r75_r117 : r75 ≠ r117 := Nat.ne_of_lt (Nat.lt_of_lt_of_le V115.lt sz117)
  have ac133 : ∀ t, Steps p.tables e below (T117.setTop (mkF m 96 #[.val (.ref a1), .val (.int p2), .val (.int (Int32.ofNat nC)), .val (.int (own_gl p2 nC))] [(.ref r117), (.ref a1)])) t → Steps p.tables e below (s₁.setTop (entryFrame m #[(.ref a1), (.int p2)] 4)) t := fun t k => ac116 t (st117 t k)
  obtain ⟨T134, h134, X134, e134, W134, st134⟩ := putF X117 hx hZ hown (host := "") (Or.inl (hw _ (List.mem_of_getElem? (i := 14) rfl))) Via.refl rfl Ff121 Ef118 (Or.inl (hw _ (List.mem_of_getElem? (i := 15) rfl))) (hw _ (List.mem_of_getElem? (i := 1) rfl)) (ty := (.array .long)) (by decide) rfl rfl (g := (mkF m 96 #[.val (.ref a1), .val (.int p2), .val (.int (Int32.ofNat nC)), .val (.int (own_gl p2 nC))] [(.ref r117), (.ref a1)])) rfl rfl (hb hby d3_96)
  have Fw134 := Ff121.same W134
  have Ef135 := Ef118.wr W134
  have Ff136 := Ff119.other W134 (Or.inr (slot_ne (Or.inl (hw _ (List.mem_of_getElem? (i := 74) rfl))) (Or.inl (hw _ (List.mem_of_getElem? (i := 15) rfl))) (by decide) (t := .int) (t' := (.array .long)) (by decide) (by decide)))
  have Ff137 := Ff120.other W134 (Or.inr (slot_ne (Or.inl (hw _ (List.mem_of_getElem? (i := 69) rfl))) (Or.inl (hw _ (List.mem_of_getElem? (i := 15) rfl))) (by decide) (t := .int) (t' := (.array .long)) (by decide) (by decide)))
  have Ff138 := Ff122.other W134 (Or.inr (slot_ne (Or.inr (hw _ (List.mem_of_getElem? (i := 18) rfl))) (Or.inl (hw _ (List.mem_of_getElem? (i := 15) rfl))) (by decide) (t := (.array .int)) (t' := (.array .long)) (by decide) (by decide)))
  have Vf139 := Vf124.other W134 (Ne.symm ne_a1_bR)
  have Ef140 := Ef126.wr W134
  have Ff141 := Ff127.other W134 (Or.inr (slot_ne (Or.inl (hw _ (List.mem_of_getElem? (i := 11) rfl))) (Or.inl (hw _ (List.mem_of_getElem? (i := 15) rfl))) (by decide) (t := (.array .long)) (t' := (.array .long)) (by decide) (by decide)))
  have Vf142 := Vf128.other W134 (Ne.symm ne_a1_r16)
  have Vf143 := Vf129.other W134 (Ne.symm ne_a1_r75)
  have Ef144 := Ef130.wr W134
  have Ff145 := Ff131.other W134 (Or.inr (slot_ne (Or.inl (hw _ (List.mem_of_getElem? (i := 13) rfl))) (Or.inl (hw _ (List.mem_of_getElem? (i := 15) rfl))) (by decide) (t := (.array .long)) (t' := (.array .long)) (by decide) (by decide)))
  have Vf146 := Vr117.other W134 (Ne.symm ne_a1_r117)
  have Ef147 := Er117.wr W134
  have N134 := Fr.snoc X134 N117 g_a1
  have Z134 : n0 ≤ h134.size := Nat.le_trans Z117 (Keep.of_wr W134).1
  have Kp148 : Keep h0 h134 [a1] := Kp132.wr W134 (Or.inl (List.mem_of_getElem? (i := 0) rfl))
  have ac149 : ∀ t, Steps p.tables e below (T134.setTop (mkF m 99 #[.val (.ref a1), .val (.int p2), .val (.int (Int32.ofNat nC)), .val (.int (own_gl p2 nC))] [])) t → Steps p.tables e below (s₁.setTop (entryFrame m #[(.ref a1), (.int p2)] 4)) t := fun t k => ac133 t (st134 t k)
  have V150 : own_Ar Z h134 r117 .long (((ln + 63) / 64 + 63) / 64) (fun i => .long ((fun i => if i < nF then ff i else 0) i)) := Vf146.eq (fun i hi => by dsimp only; by_cases q : i < nF; rw [if_pos q, if_pos q]; rw [if_neg q, if_neg q])
  obtain ⟨fs, hr, hrun, hended, hW, hsame⟩ := X134.leave (v := none) (fun _ => rfl) (BodyLoose.notSynchronized Bd)
  refine ⟨_, _, ac149 _ ?_, hrun, hended, _, _, rfl, ?_, ⟨_, rfl⟩, hW, hsame.mono (by decide) (by decide)⟩
  · show Steps p.tables e below (T134.setTop (mkF m 99 #[.val (.ref a1), .val (.int p2), .val (.int (Int32.ofNat nC)), .val (.int (own_gl p2 nC))] [])) _
    exact X134.returnOut hx Bd.returns (hb hby d3_99) hr
  · show Q3 Z a1 p2 low sz bC bU bF bR nC nU nF fC u ff r cp frv h0 n0 _ T134.heap _
    rw [e134]
    exact ⟨r16, r75, r117, _, (fun i => if i < nF then ff i else 0), ln, rfl, N134, Kp148, hl1, hl2, hl3, hl4, sz_r75, ⟨Ef135, Ff141, Ff145, Fw134, Ff138, Ff136, Ff137, Vf142, Vf143, V150, Vf139, Ef140, Ef144, Ef147, ne_a1_r16, ne_a1_r75, ne_a1_r117, ne_a1_bR, ne_r16_r75, ne_r16_r117, (Ne.symm ne_bR_r16), ne_r75_r117, (Ne.symm ne_bR_r75), (Ne.symm ne_bR_r117), g_r16, g_r75, g_r117, g_bR⟩⟩
theorem ef_rm1 (m : MethodId) (x0 : Addr) (x1 : Int32) : entryFrame m #[(.ref x0), (.int x1)] 2 = mkF m 0 #[.val (.ref x0), .val (.int x1)] [] := by first | (simp [entryFrame, mkF, argsToLocals, Value.category]; done) | rfl
def Q1 (Z : State) (a1 : Addr) (p2 : Int32) (cp : Nat) (frv : Int64) (h0 : Heap) (n0 : Nat) (v : Option Value) (h : Heap) (L : List Loc) : Prop := ∃ (bC' : Addr) (bU' : Addr) (bF' : Addr) (bR' : Addr) (fC' : Nat → Value) (ff' : Nat → Int64) (r' : Nat → Int32) (ln : Nat), v = none ∧ Fr n0 L ∧ Keep h0 h [a1] ∧ ln ≤ 255 ∧ own_C Z h n0 a1 0 0 bC' bU' bF' bR' ln ((ln + 63) / 64) (((ln + 63) / 64 + 63) / 64) fC' (fun _ => 0) ff' r'
set_option maxRecDepth 65536 in
set_option maxHeartbeats 40000000 in
theorem rm1 (l : Launch) (Z : State) (a0 : Array Value) (hw : ∀ d ∈ tables_1, d.before a0 Z = true) (ws : List Jvm.Cond) (a1 : Addr) (p2 : Int32) (cp : Nat) (frv : Int64) (h0 : Heap) (n0 : Nat) (Z0 : n0 ≤ h0.size) (E1 : Exa Z h0 a1 "com/example/twinbase/twinbase/CellSpace") (g_a1 : n0 ≤ a1) (F0 : Fld Z h0 a1 "com/example/twinbase/twinbase/CellSpace" "cells" "[J" .null) (F1 : Fld Z h0 a1 "com/example/twinbase/twinbase/CellSpace" "used" "[J" .null) (F2 : Fld Z h0 a1 "com/example/twinbase/twinbase/CellSpace" "full" "[J" .null) (F3 : Fld Z h0 a1 "com/example/twinbase/twinbase/CellSpace" "resume" "[I" .null) (F4 : Fld Z h0 a1 "com/example/twinbase/twinbase/CellSpace" "lowestFree" "I" (.int 0)) (F5 : Fld Z h0 a1 "com/example/twinbase/twinbase/CellSpace" "size" "I" (.int 0)) (hp : p2.toInt = cp) (h1 : cp ≤ 255) (Sf : Sta Z h0 "com/example/twinbase/twinbase/DoubleArray" "FREE" "J" (.long frv)) :
    MetFree l (⟨"com/example/twinbase/twinbase/CellSpace", "<init>", "(I)V"⟩ : MethodName) (head1 (Jvm.Cond.code (⟨"com/example/twinbase/twinbase/CellSpace", "<init>", "(I)V"⟩ : MethodName) prog_2_method_1_code 2 none :: ws) ({ frames := 3, cells := 7, slots := 1073, locals := 48 } : Room)) (fun a U => a = #[(.ref a1), (.int p2)] ∧ Z.Warmed39 U.vm ∧ U.heap = h0) (fun _ _ _ _ _ => True) (fun _ U o U' => ∃ v L, o = .returned v ∧ Q1 Z a1 p2 cp frv h0 n0 v U'.heap L ∧ FrameEnd U o U' L ({ frames := 3, cells := 7, slots := 1073, locals := 48 } : Room).cells ({ frames := 3, cells := 7, slots := 1073, locals := 48 } : Room).slots) := by
  refine MetFree.of_bodySF (plainFor_of_name pn_1) hisR ?_
  intro p e s m args below meth c s₁ Bd hml0 hP hK
  obtain ⟨rfl, hZ, hh⟩ := hP
  have hx := Bd.exec
  have hby := Bd.bytes
  have hml : c.maxLocals = 2 := hml0
  have hown : s.vm.findClass "com/example/twinbase/twinbase/CellSpace" = some m.cls := findClass_of_methodNamed Bd.named
  have hnm := (name_of_methodNamed Bd.named Bd.method).1
  have X0 : Stand p l e ({ frames := 3, cells := 7, slots := 1073, locals := 48 } : Room) s m #[(.ref a1), (.int p2)] below meth c s₁ [] 0 0 := Stand.of_body Bd
  have e0 : s₁.heap = h0 := by rw [← hh, Bd.state]; rfl
  have N0 := Fr.nil n0
  have a0s : ∀ t, Steps p.tables e below (s₁.setTop (mkF m 0 #[.val (.ref a1), .val (.int p2)] [])) t → Steps p.tables e below (s₁.setTop (entryFrame m #[(.ref a1), (.int p2)] 2)) t := fun t k => castTop (ef_rm1 m a1 p2) k
  have ac1 : ∀ t, Steps p.tables e below (s₁.setTop (mkF m 1 #[.val (.ref a1), .val (.int p2)] [(.ref a1)])) t → Steps p.tables e below (s₁.setTop (entryFrame m #[(.ref a1), (.int p2)] 2)) t := fun t k => a0s t (by
      show Steps p.tables e below (s₁.setTop (mkF m 0 #[.val (.ref a1), .val (.int p2)] [])) _
      refine XS.aloadN X0.here hx rfl (hb hby d1_0) rfl rfl ?_
      exact k)
  obtain ⟨T2, X2, e2, st2⟩ := initO X0 hx hZ hown (hw _ (List.mem_of_getElem? (i := 6) rfl)) (hw _ (List.mem_of_getElem? (i := 7) rfl)) (hw _ (List.mem_of_getElem? (i := 8) rfl)) e0 (g := (mkF m 1 #[.val (.ref a1), .val (.int p2)] [(.ref a1)])) rfl (by rw [hml]; rfl) rfl (hb hby d1_1) (by decide) (W := 0) (by show 2 * 0 + _ ≤ _; exact Nat.le_of_eq rfl) (by decide)
  have ac3 : ∀ t, Steps p.tables e below (T2.setTop (mkF m 4 #[.val (.ref a1), .val (.int p2)] [])) t → Steps p.tables e below (s₁.setTop (entryFrame m #[(.ref a1), (.int p2)] 2)) t := fun t k => ac1 t (st2 t k)
  have ac4 : ∀ t, Steps p.tables e below (T2.setTop (mkF m 6 #[.val (.ref a1), .val (.int p2)] [(.int (0 : Int32)), (.ref a1)])) t → Steps p.tables e below (s₁.setTop (entryFrame m #[(.ref a1), (.int p2)] 2)) t := fun t k => ac3 t (by
      show Steps p.tables e below (T2.setTop (mkF m 4 #[.val (.ref a1), .val (.int p2)] [])) _
      refine XS.aloadN X2.here hx rfl (hb hby d1_4) rfl rfl ?_
      show Steps p.tables e below (T2.setTop (mkF m 5 #[.val (.ref a1), .val (.int p2)] [(.ref a1)])) _
      refine XS.iconst X2.here hx rfl (hb hby d1_5) ?_
      exact k)
  obtain ⟨T5, h5, k5, X5, e5, E5, A5, Ea5, st5⟩ := newPE X2 hx hZ (hw _ (List.mem_of_getElem? (i := 9) rfl)) e2 (g := (mkF m 6 #[.val (.ref a1), .val (.int p2)] [(.int (0 : Int32)), (.ref a1)])) rfl (hb hby d1_6) rfl (by decide) (cap := 0) (by decide) (by decide) (by decide) (by decide) (ad := "[J") (by decide)
  obtain ⟨b5, g5⟩ : ∃ z, z = h0.size := ⟨_, rfl⟩
  rw [← g5] at A5 st5 Ea5
  have g_b5 : n0 ≤ b5 := Nat.le_trans Z0 (Nat.le_of_eq g5.symm)
  have sz_b5 : h0.size ≤ b5 := Nat.le_trans (Keep.refl h0 [a1]).1 (Nat.le_of_eq g5.symm)
  have ne_a1_b5 : a1 ≠ b5 := Nat.ne_of_lt (Nat.lt_of_lt_of_le E1.lt (Nat.le_of_eq g5.symm))
  have Ef6 := E1.ext E5
  have Ff7 := F0.ext E5
  have Ff8 := F1.ext E5
  have Ff9 := F2.ext E5
  have Ff10 := F3.ext E5
  have Ff11 := F4.ext E5
  have Ff12 := F5.ext E5
  have Z5 : n0 ≤ h5.size := Nat.le_trans Z0 E5.1
  have Kp13 : Keep h0 h5 [a1] := (Keep.refl h0 [a1]).ext E5
  have V5 : own_Ar Z h5 b5 .long 0 (fun _ => (.long (0 : Int64))) := own_Ar.new A5 rfl
  have ac14 : ∀ t, Steps p.tables e below (T5.setTop (mkF m 8 #[.val (.ref a1), .val (.int p2)] [(.ref b5), (.ref a1)])) t → Steps p.tables e below (s₁.setTop (entryFrame m #[(.ref a1), (.int p2)] 2)) t := fun t k => ac4 t (st5 t k)
  obtain ⟨T15, h15, X15, e15, W15, st15⟩ := putF X5 hx hZ hown (host := "") (Or.inl (hw _ (List.mem_of_getElem? (i := 10) rfl))) Via.refl e5 Ff7 Ef6 (Or.inl (hw _ (List.mem_of_getElem? (i := 11) rfl))) (hw _ (List.mem_of_getElem? (i := 1) rfl)) (ty := (.array .long)) (by decide) rfl rfl (g := (mkF m 8 #[.val (.ref a1), .val (.int p2)] [(.ref b5), (.ref a1)])) rfl rfl (hb hby d1_8)
  have Fw15 := Ff7.same W15
  have Ef16 := Ef6.wr W15
  have Ff17 := Ff8.other W15 (Or.inr (slot_ne (Or.inl (hw _ (List.mem_of_getElem? (i := 13) rfl))) (Or.inl (hw _ (List.mem_of_getElem? (i := 11) rfl))) (by decide) (t := (.array .long)) (t' := (.array .long)) (by decide) (by decide)))
  have Ff18 := Ff9.other W15 (Or.inr (slot_ne (Or.inl (hw _ (List.mem_of_getElem? (i := 15) rfl))) (Or.inl (hw _ (List.mem_of_getElem? (i := 11) rfl))) (by decide) (t := (.array .long)) (t' := (.array .long)) (by decide) (by decide)))
  have Ff19 := Ff10.other W15 (Or.inr (slot_ne (Or.inr (hw _ (List.mem_of_getElem? (i := 18) rfl))) (Or.inl (hw _ (List.mem_of_getElem? (i := 11) rfl))) (by decide) (t := (.array .int)) (t' := (.array .long)) (by decide) (by decide)))
  have Ff20 := Ff11.other W15 (Or.inr (slot_ne (Or.inl (hw _ (List.mem_of_getElem? (i := 74) rfl))) (Or.inl (hw _ (List.mem_of_getElem? (i := 11) rfl))) (by decide) (t := .int) (t' := (.array .long)) (by decide) (by decide)))
  have Ff21 := Ff12.other W15 (Or.inr (slot_ne (Or.inl (hw _ (List.mem_of_getElem? (i := 69) rfl))) (Or.inl (hw _ (List.mem_of_getElem? (i := 11) rfl))) (by decide) (t := .int) (t' := (.array .long)) (by decide) (by decide)))
  have Vf22 := V5.other W15 (Ne.symm ne_a1_b5)
  have Ef23 := Ea5.wr W15
  have N15 := Fr.snoc X15 N0 g_a1
  have Z15 : n0 ≤ h15.size := Nat.le_trans Z5 (Keep.of_wr W15).1
  have Kp24 : Keep h0 h15 [a1] := Kp13.wr W15 (Or.inl (List.mem_of_getElem? (i := 0) rfl))
  have ac25 : ∀ t, Steps p.tables e below (T15.setTop (mkF m 11 #[.val (.ref a1), .val (.int p2)] [])) t → Steps p.tables e below (s₁.setTop (entryFrame m #[(.ref a1), (.int p2)] 2)) t := fun t k => ac14 t (st15 t k)
  have ac26 : ∀ t, Steps p.tables e below (T15.setTop (mkF m 13 #[.val (.ref a1), .val (.int p2)] [(.int (0 : Int32)), (.ref a1)])) t → Steps p.tables e below (s₁.setTop (entryFrame m #[(.ref a1), (.int p2)] 2)) t := fun t k => ac25 t (by
      show Steps p.tables e below (T15.setTop (mkF m 11 #[.val (.ref a1), .val (.int p2)] [])) _
      refine XS.aloadN X15.here hx rfl (hb hby d1_11) rfl rfl ?_
      show Steps p.tables e below (T15.setTop (mkF m 12 #[.val (.ref a1), .val (.int p2)] [(.ref a1)])) _
      refine XS.iconst X15.here hx rfl (hb hby d1_12) ?_
      exact k)
  obtain ⟨T27, h27, k27, X27, e27, E27, A27, Ea27, st27⟩ := newPE X15 hx hZ (hw _ (List.mem_of_getElem? (i := 9) rfl)) e15 (g := (mkF m 13 #[.val (.ref a1), .val (.int p2)] [(.int (0 : Int32)), (.ref a1)])) rfl (hb hby d1_13) rfl (by decide) (cap := 0) (by decide) (by decide) (by decide) (by decide) (ad := "[J") (by decide)
  obtain ⟨b27, g27⟩ : ∃ z, z = h15.size := ⟨_, rfl⟩
  rw [← g27] at A27 st27 Ea27
  have g_b27 : n0 ≤ b27 := Nat.le_trans Z15 (Nat.le_of_eq g27.symm)
  have sz_b27 : h0.size ≤ b27 := Nat.le_trans Kp24.1 (Nat.le_of_eq g27.symm)
  have ne_a1_b27 : a1 ≠ b27 := Nat.ne_of_lt (Nat.lt_of_lt_of_le Ef16.lt (Nat.le_of_eq g27.symm))
  have ne_b5_b27 : b5 ≠ b27 := Nat.ne_of_lt (Nat.lt_of_lt_of_le Vf22.lt (Nat.le_of_eq g27.symm))
  have Ef28 := Ef16.ext E27
  have Ff29 := Ff17.ext E27
  have Ff30 := Ff18.ext E27
  have Ff31 := Ff19.ext E27
  have Ff32 := Ff20.ext E27
  have Ff33 := Ff21.ext E27
  have Vf34 := Vf22.ext E27
  have Ef35 := Ef23.ext E27
  have Ff36 := Fw15.ext E27
  have Z27 : n0 ≤ h27.size := Nat.le_trans Z15 E27.1
  have Kp37 : Keep h0 h27 [a1] := Kp24.ext E27
  have V27 : own_Ar Z h27 b27 .long 0 (fun _ => (.long (0 : Int64))) := own_Ar.new A27 rfl
  have ac38 : ∀ t, Steps p.tables e below (T27.setTop (mkF m 15 #[.val (.ref a1), .val (.int p2)] [(.ref b27), (.ref a1)])) t → Steps p.tables e below (s₁.setTop (entryFrame m #[(.ref a1), (.int p2)] 2)) t := fun t k => ac26 t (st27 t k)
  obtain ⟨T39, h39, X39, e39, W39, st39⟩ := putF X27 hx hZ hown (host := "") (Or.inl (hw _ (List.mem_of_getElem? (i := 12) rfl))) Via.refl e27 Ff29 Ef28 (Or.inl (hw _ (List.mem_of_getElem? (i := 13) rfl))) (hw _ (List.mem_of_getElem? (i := 1) rfl)) (ty := (.array .long)) (by decide) rfl rfl (g := (mkF m 15 #[.val (.ref a1), .val (.int p2)] [(.ref b27), (.ref a1)])) rfl rfl (hb hby d1_15)
  have Fw39 := Ff29.same W39
  have Ef40 := Ef28.wr W39
  have Ff41 := Ff30.other W39 (Or.inr (slot_ne (Or.inl (hw _ (List.mem_of_getElem? (i := 15) rfl))) (Or.inl (hw _ (List.mem_of_getElem? (i := 13) rfl))) (by decide) (t := (.array .long)) (t' := (.array .long)) (by decide) (by decide)))
  have Ff42 := Ff31.other W39 (Or.inr (slot_ne (Or.inr (hw _ (List.mem_of_getElem? (i := 18) rfl))) (Or.inl (hw _ (List.mem_of_getElem? (i := 13) rfl))) (by decide) (t := (.array .int)) (t' := (.array .long)) (by decide) (by decide)))
  have Ff43 := Ff32.other W39 (Or.inr (slot_ne (Or.inl (hw _ (List.mem_of_getElem? (i := 74) rfl))) (Or.inl (hw _ (List.mem_of_getElem? (i := 13) rfl))) (by decide) (t := .int) (t' := (.array .long)) (by decide) (by decide)))
  have Ff44 := Ff33.other W39 (Or.inr (slot_ne (Or.inl (hw _ (List.mem_of_getElem? (i := 69) rfl))) (Or.inl (hw _ (List.mem_of_getElem? (i := 13) rfl))) (by decide) (t := .int) (t' := (.array .long)) (by decide) (by decide)))
  have Vf45 := Vf34.other W39 (Ne.symm ne_a1_b5)
  have Ef46 := Ef35.wr W39
  have Ff47 := Ff36.other W39 (Or.inr (slot_ne (Or.inl (hw _ (List.mem_of_getElem? (i := 11) rfl))) (Or.inl (hw _ (List.mem_of_getElem? (i := 13) rfl))) (by decide) (t := (.array .long)) (t' := (.array .long)) (by decide) (by decide)))
  have Vf48 := V27.other W39 (Ne.symm ne_a1_b27)
  have Ef49 := Ea27.wr W39
  have N39 := Fr.snoc X39 N15 g_a1
  have Z39 : n0 ≤ h39.size := Nat.le_trans Z27 (Keep.of_wr W39).1
  have Kp50 : Keep h0 h39 [a1] := Kp37.wr W39 (Or.inl (List.mem_of_getElem? (i := 0) rfl))
  have ac51 : ∀ t, Steps p.tables e below (T39.setTop (mkF m 18 #[.val (.ref a1), .val (.int p2)] [])) t → Steps p.tables e below (s₁.setTop (entryFrame m #[(.ref a1), (.int p2)] 2)) t := fun t k => ac38 t (st39 t k)
  have ac52 : ∀ t, Steps p.tables e below (T39.setTop (mkF m 20 #[.val (.ref a1), .val (.int p2)] [(.int (0 : Int32)), (.ref a1)])) t → Steps p.tables e below (s₁.setTop (entryFrame m #[(.ref a1), (.int p2)] 2)) t := fun t k => ac51 t (by
      show Steps p.tables e below (T39.setTop (mkF m 18 #[.val (.ref a1), .val (.int p2)] [])) _
      refine XS.aloadN X39.here hx rfl (hb hby d1_18) rfl rfl ?_
      show Steps p.tables e below (T39.setTop (mkF m 19 #[.val (.ref a1), .val (.int p2)] [(.ref a1)])) _
      refine XS.iconst X39.here hx rfl (hb hby d1_19) ?_
      exact k)
  obtain ⟨T53, h53, k53, X53, e53, E53, A53, Ea53, st53⟩ := newPE X39 hx hZ (hw _ (List.mem_of_getElem? (i := 9) rfl)) e39 (g := (mkF m 20 #[.val (.ref a1), .val (.int p2)] [(.int (0 : Int32)), (.ref a1)])) rfl (hb hby d1_20) rfl (by decide) (cap := 0) (by decide) (by decide) (by decide) (by decide) (ad := "[J") (by decide)
  obtain ⟨b53, g53⟩ : ∃ z, z = h39.size := ⟨_, rfl⟩
  rw [← g53] at A53 st53 Ea53
  have g_b53 : n0 ≤ b53 := Nat.le_trans Z39 (Nat.le_of_eq g53.symm)
  have sz_b53 : h0.size ≤ b53 := Nat.le_trans Kp50.1 (Nat.le_of_eq g53.symm)
  have ne_a1_b53 : a1 ≠ b53 := Nat.ne_of_lt (Nat.lt_of_lt_of_le Ef40.lt (Nat.le_of_eq g53.symm))
  have ne_b5_b53 : b5 ≠ b53 := Nat.ne_of_lt (Nat.lt_of_lt_of_le Vf45.lt (Nat.le_of_eq g53.symm))
  have ne_b27_b53 : b27 ≠ b53 := Nat.ne_of_lt (Nat.lt_of_lt_of_le Vf48.lt (Nat.le_of_eq g53.symm))
  have Ef54 := Ef40.ext E53
  have Ff55 := Ff41.ext E53
  have Ff56 := Ff42.ext E53
  have Ff57 := Ff43.ext E53
  have Ff58 := Ff44.ext E53
  have Vf59 := Vf45.ext E53
  have Ef60 := Ef46.ext E53
  have Ff61 := Ff47.ext E53
  have Vf62 := Vf48.ext E53
  have Ef63 := Ef49.ext E53
  have Ff64 := Fw39.ext E53
  have Z53 : n0 ≤ h53.size := Nat.le_trans Z39 E53.1
  have Kp65 : Keep h0 h53 [a1] := Kp50.ext E53
  have V53 : own_Ar Z h53 b53 .long 0 (fun _ => (.long (0 : Int64))) := own_Ar.new A53 rfl
  have ac66 : ∀ t, Steps p.tables e below (T53.setTop (mkF m 22 #[.val (.ref a1), .val (.int p2)] [(.ref b53), (.ref a1)])) t → Steps p.tables e below (s₁.setTop (entryFrame m #[(.ref a1), (.int p2)] 2)) t := fun t k => ac52 t (st53 t k)
  obtain ⟨T67, h67, X67, e67, W67, st67⟩ := putF X53 hx hZ hown (host := "") (Or.inl (hw _ (List.mem_of_getElem? (i := 14) rfl))) Via.refl e53 Ff55 Ef54 (Or.inl (hw _ (List.mem_of_getElem? (i := 15) rfl))) (hw _ (List.mem_of_getElem? (i := 1) rfl)) (ty := (.array .long)) (by decide) rfl rfl (g := (mkF m 22 #[.val (.ref a1), .val (.int p2)] [(.ref b53), (.ref a1)])) rfl rfl (hb hby d1_22)
  have Fw67 := Ff55.same W67
  have Ef68 := Ef54.wr W67
  have Ff69 := Ff56.other W67 (Or.inr (slot_ne (Or.inr (hw _ (List.mem_of_getElem? (i := 18) rfl))) (Or.inl (hw _ (List.mem_of_getElem? (i := 15) rfl))) (by decide) (t := (.array .int)) (t' := (.array .long)) (by decide) (by decide)))
  have Ff70 := Ff57.other W67 (Or.inr (slot_ne (Or.inl (hw _ (List.mem_of_getElem? (i := 74) rfl))) (Or.inl (hw _ (List.mem_of_getElem? (i := 15) rfl))) (by decide) (t := .int) (t' := (.array .long)) (by decide) (by decide)))
  have Ff71 := Ff58.other W67 (Or.inr (slot_ne (Or.inl (hw _ (List.mem_of_getElem? (i := 69) rfl))) (Or.inl (hw _ (List.mem_of_getElem? (i := 15) rfl))) (by decide) (t := .int) (t' := (.array .long)) (by decide) (by decide)))
  have Vf72 := Vf59.other W67 (Ne.symm ne_a1_b5)
  have Ef73 := Ef60.wr W67
  have Ff74 := Ff61.other W67 (Or.inr (slot_ne (Or.inl (hw _ (List.mem_of_getElem? (i := 11) rfl))) (Or.inl (hw _ (List.mem_of_getElem? (i := 15) rfl))) (by decide) (t := (.array .long)) (t' := (.array .long)) (by decide) (by decide)))
  have Vf75 := Vf62.other W67 (Ne.symm ne_a1_b27)
  have Ef76 := Ef63.wr W67
  have Ff77 := Ff64.other W67 (Or.inr (slot_ne (Or.inl (hw _ (List.mem_of_getElem? (i := 13) rfl))) (Or.inl (hw _ (List.mem_of_getElem? (i := 15) rfl))) (by decide) (t := (.array .long)) (t' := (.array .long)) (by decide) (by decide)))
  have Vf78 := V53.other W67 (Ne.symm ne_a1_b53)
  have Ef79 := Ea53.wr W67
  have N67 := Fr.snoc X67 N39 g_a1
  have Z67 : n0 ≤ h67.size := Nat.le_trans Z53 (Keep.of_wr W67).1
  have Kp80 : Keep h0 h67 [a1] := Kp65.wr W67 (Or.inl (List.mem_of_getElem? (i := 0) rfl))
  have ac81 : ∀ t, Steps p.tables e below (T67.setTop (mkF m 25 #[.val (.ref a1), .val (.int p2)] [])) t → Steps p.tables e below (s₁.setTop (entryFrame m #[(.ref a1), (.int p2)] 2)) t := fun t k => ac66 t (st67 t k)
  have ac82 : ∀ t, Steps p.tables e below (T67.setTop (mkF m 28 #[.val (.ref a1), .val (.int p2)] [(.int (32 : Int32)), (.ref a1)])) t → Steps p.tables e below (s₁.setTop (entryFrame m #[(.ref a1), (.int p2)] 2)) t := fun t k => ac81 t (by
      show Steps p.tables e below (T67.setTop (mkF m 25 #[.val (.ref a1), .val (.int p2)] [])) _
      refine XS.aloadN X67.here hx rfl (hb hby d1_25) rfl rfl ?_
      show Steps p.tables e below (T67.setTop (mkF m 26 #[.val (.ref a1), .val (.int p2)] [(.ref a1)])) _
      refine XS.bipush X67.here hx rfl (hb hby d1_26) ?_
      exact k)
  obtain ⟨T83, h83, k83, X83, e83, E83, A83, st83⟩ := newP X67 hx hZ (hw _ (List.mem_of_getElem? (i := 16) rfl)) e67 (g := (mkF m 28 #[.val (.ref a1), .val (.int p2)] [(.int (32 : Int32)), (.ref a1)])) rfl (hb hby d1_28) rfl (by decide) (cap := 32) (by decide) (by decide) (by decide) (by decide)
  obtain ⟨b83, g83⟩ : ∃ z, z = h67.size := ⟨_, rfl⟩
  rw [← g83] at A83 st83
  have g_b83 : n0 ≤ b83 := Nat.le_trans Z67 (Nat.le_of_eq g83.symm)
  have sz_b83 : h0.size ≤ b83 := Nat.le_trans Kp80.1 (Nat.le_of_eq g83.symm)
  have ne_a1_b83 : a1 ≠ b83 := Nat.ne_of_lt (Nat.lt_of_lt_of_le Ef68.lt (Nat.le_of_eq g83.symm))
  have ne_b5_b83 : b5 ≠ b83 := Nat.ne_of_lt (Nat.lt_of_lt_of_le Vf72.lt (Nat.le_of_eq g83.symm))
  have ne_b27_b83 : b27 ≠ b83 := Nat.ne_of_lt (Nat.lt_of_lt_of_le Vf75.lt (Nat.le_of_eq g83.symm))
  have ne_b53_b83 : b53 ≠ b83 := Nat.ne_of_lt (Nat.lt_of_lt_of_le Vf78.lt (Nat.le_of_eq g83.symm))
  have Ef84 := Ef68.ext E83
  have Ff85 := Ff69.ext E83
  have Ff86 := Ff70.ext E83
  have Ff87 := Ff71.ext E83
  have Vf88 := Vf72.ext E83
  have Ef89 := Ef73.ext E83
  have Ff90 := Ff74.ext E83
  have Vf91 := Vf75.ext E83
  have Ef92 := Ef76.ext E83
  have Ff93 := Ff77.ext E83
  have Vf94 := Vf78.ext E83
  have Ef95 := Ef79.ext E83
  have Ff96 := Fw67.ext E83
  have Z83 : n0 ≤ h83.size := Nat.le_trans Z67 E83.1
  have Kp97 : Keep h0 h83 [a1] := Kp80.ext E83
  have V83 : own_Ar Z h83 b83 .int 32 (fun _ => (.int (0 : Int32))) := own_Ar.new A83 rfl
  have ac98 : ∀ t, Steps p.tables e below (T83.setTop (mkF m 30 #[.val (.ref a1), .val (.int p2)] [(.ref b83), (.ref a1)])) t → Steps p.tables e below (s₁.setTop (entryFrame m #[(.ref a1), (.int p2)] 2)) t := fun t k => ac82 t (st83 t k)
  obtain ⟨T99, h99, X99, e99, W99, st99⟩ := putF X83 hx hZ hown (host := "") (Or.inl (hw _ (List.mem_of_getElem? (i := 17) rfl))) Via.refl e83 Ff85 Ef84 (Or.inr ⟨(hw _ (List.mem_of_getElem? (i := 18) rfl)), rfl, hnm⟩) (hw _ (List.mem_of_getElem? (i := 1) rfl)) (ty := (.array .int)) (by decide) rfl rfl (g := (mkF m 30 #[.val (.ref a1), .val (.int p2)] [(.ref b83), (.ref a1)])) rfl rfl (hb hby d1_30)
  have Fw99 := Ff85.same W99
  have Ef100 := Ef84.wr W99
  have Ff101 := Ff86.other W99 (Or.inr (slot_ne (Or.inl (hw _ (List.mem_of_getElem? (i := 74) rfl))) (Or.inr (hw _ (List.mem_of_getElem? (i := 18) rfl))) (by decide) (t := .int) (t' := (.array .int)) (by decide) (by decide)))
  have Ff102 := Ff87.other W99 (Or.inr (slot_ne (Or.inl (hw _ (List.mem_of_getElem? (i := 69) rfl))) (Or.inr (hw _ (List.mem_of_getElem? (i := 18) rfl))) (by decide) (t := .int) (t' := (.array .int)) (by decide) (by decide)))
  have Vf103 := Vf88.other W99 (Ne.symm ne_a1_b5)
  have Ef104 := Ef89.wr W99
  have Ff105 := Ff90.other W99 (Or.inr (slot_ne (Or.inl (hw _ (List.mem_of_getElem? (i := 11) rfl))) (Or.inr (hw _ (List.mem_of_getElem? (i := 18) rfl))) (by decide) (t := (.array .long)) (t' := (.array .int)) (by decide) (by decide)))
  have Vf106 := Vf91.other W99 (Ne.symm ne_a1_b27)
  have Ef107 := Ef92.wr W99
  have Ff108 := Ff93.other W99 (Or.inr (slot_ne (Or.inl (hw _ (List.mem_of_getElem? (i := 13) rfl))) (Or.inr (hw _ (List.mem_of_getElem? (i := 18) rfl))) (by decide) (t := (.array .long)) (t' := (.array .int)) (by decide) (by decide)))
  have Vf109 := Vf94.other W99 (Ne.symm ne_a1_b53)
  have Ef110 := Ef95.wr W99
  have Ff111 := Ff96.other W99 (Or.inr (slot_ne (Or.inl (hw _ (List.mem_of_getElem? (i := 15) rfl))) (Or.inr (hw _ (List.mem_of_getElem? (i := 18) rfl))) (by decide) (t := (.array .long)) (t' := (.array .int)) (by decide) (by decide)))
  have Vf112 := V83.other W99 (Ne.symm ne_a1_b83)
  have N99 := Fr.snoc X99 N67 g_a1
  have Z99 : n0 ≤ h99.size := Nat.le_trans Z83 (Keep.of_wr W99).1
  have Kp113 : Keep h0 h99 [a1] := Kp97.wr W99 (Or.inl (List.mem_of_getElem? (i := 0) rfl))
  have ac114 : ∀ t, Steps p.tables e below (T99.setTop (mkF m 33 #[.val (.ref a1), .val (.int p2)] [])) t → Steps p.tables e below (s₁.setTop (entryFrame m #[(.ref a1), (.int p2)] 2)) t := fun t k => ac98 t (st99 t k)
  have HB0 : own_C Z h99 n0 a1 (0 : Int32) (0 : Int32) b5 b27 b53 b83 0 0 0 (fun _ => .long 0) (fun _ => 0) (fun _ => 0) (fun _ => 0) := ⟨Ef100, Ff105, Ff108, Ff111, Fw99, Ff101, Ff102, Vf103, Vf106, Vf109, Vf112, Ef104, Ef107, Ef110, ne_a1_b5, ne_a1_b27, ne_a1_b53, ne_a1_b83, ne_b5_b27, ne_b5_b53, ne_b5_b83, ne_b27_b53, ne_b27_b83, ne_b53_b83, g_b5, g_b27, g_b53, g_b83⟩
  have ac115 : ∀ t, Steps p.tables e below (T99.setTop (mkF m 35 #[.val (.ref a1), .val (.int p2)] [(.int p2), (.ref a1)])) t → Steps p.tables e below (s₁.setTop (entryFrame m #[(.ref a1), (.int p2)] 2)) t := fun t k => ac114 t (by
      show Steps p.tables e below (T99.setTop (mkF m 33 #[.val (.ref a1), .val (.int p2)] [])) _
      refine XS.aloadN X99.here hx rfl (hb hby d1_33) rfl rfl ?_
      show Steps p.tables e below (T99.setTop (mkF m 34 #[.val (.ref a1), .val (.int p2)] [(.ref a1)])) _
      refine XS.iloadN X99.here hx rfl (hb hby d1_34) rfl ?_
      exact k)
  obtain ⟨cq116, q116, q116'⟩ := Ef100.cell
  obtain ⟨_, _, ⟨T116, L116, k116, n116⟩, -, X116, ⟨Lc116, hQ116, l116, y116, z116⟩, st116⟩ := X99.privateBack hx (y := (⟨"com/example/twinbase/twinbase/CellSpace", "grow", "(I)V"⟩ : MethodName)) hown (mvT hZ (hw _ (List.mem_of_getElem? (i := 19) rfl))) (mvT hZ (hw _ (List.mem_of_getElem? (i := 20) rfl))) (own_selfsel hZ (hw _ (List.mem_of_getElem? (i := 1) rfl)) (hw _ (List.mem_of_getElem? (i := 21) rfl)) (hw _ (List.mem_of_getElem? (i := 20) rfl)) (by decide)) (Cond.privateMethod_at (mvP hZ (hw _ (List.mem_of_getElem? (i := 21) rfl)) (args := #[]))) (mvT hZ (hw _ (List.mem_of_getElem? (i := 22) rfl))) (by decide) (backOf (W := 0) (rm3 l Z a0 hw [] a1 p2 0 0 b5 b27 b53 b83 0 0 0 _ (fun _ => 0) (fun _ => 0) (fun _ => 0) cp frv h99 n0 Z99 HB0 rfl rfl hp (by omega) (by decide) (fun _ _ => rfl) g_a1 (own_Sta_keep1 Sf Kp113 (allS (own_cellE E1) all0))) hZ (hw _ (List.mem_of_getElem? (i := 22) rfl)) (hw _ (List.mem_of_getElem? (i := 2) rfl)) (by decide) (by decide)) (g := (mkF m 35 #[.val (.ref a1), .val (.int p2)] [(.int p2), (.ref a1)])) rfl (by rw [hml]; rfl) (Steps.refl _) (a := a1) (by rw [e99]; exact q116) q116' (argsL := [(.int p2)]) (rest := []) (lenOf pd_0 rfl) rfl (by show 2 * 0 + _ ≤ _; exact Nat.le_of_eq rfl) (hb hby d1_35) (fun _ _ => ⟨rfl, e99, (by decide : 4 + 3 ≤ _), (by decide : 32 + 1041 ≤ _)⟩)
  dsimp only [Pt.U, Pt.locs, Pt.cells, Pt.slots] at X116 l116 y116 z116 st116 hQ116
  subst l116 y116 z116
  obtain ⟨bC116, bU116, bF116, fC116, ff116, ln116, rfl, N116q, K116q, q1116, q2116, q3116, q4116, sz116, HB116⟩ := hQ116
  have N116 := Fr.app N99 N116q
  have Ef117 := Ef100.keep K116q
  have Vf118 := Vf103.keep K116q (ninS (Ne.symm ne_a1_b5) nin0)
  have Ef119 := Ef104.keep K116q
  have Vf120 := Vf106.keep K116q (ninS (Ne.symm ne_a1_b27) nin0)
  have Ef121 := Ef107.keep K116q
  have Vf122 := Vf109.keep K116q (ninS (Ne.symm ne_a1_b53) nin0)
  have Ef123 := Ef110.keep K116q
  have Vf124 := Vf112.keep K116q (ninS (Ne.symm ne_a1_b83) nin0)
  have Z116 : n0 ≤ T116.heap.size := Nat.le_trans Z99 K116q.1
  have Kp125 : Keep h0 T116.heap [a1] := Kp113.trans K116q (allS (Or.inl (List.mem_of_getElem? (i := 0) rfl)) all0)
  have ac126 : ∀ t, Steps p.tables e below (T116.setTop (mkF m 38 #[.val (.ref a1), .val (.int p2)] [])) t → Steps p.tables e below (s₁.setTop (entryFrame m #[(.ref a1), (.int p2)] 2)) t := fun t k => ac115 t (st116.trans k)
  obtain ⟨fs, hr, hrun, hended, hW, hsame⟩ := X116.leave (v := none) (fun _ => rfl) (BodyLoose.notSynchronized Bd)
  refine ⟨_, _, ac126 _ ?_, hrun, hended, _, _, rfl, ?_, ⟨_, rfl⟩, hW, hsame.mono (by decide) (by decide)⟩
  · show Steps p.tables e below (T116.setTop (mkF m 38 #[.val (.ref a1), .val (.int p2)] [])) _
    exact X116.returnOut hx Bd.returns (hb hby d1_38) hr
  · show Q1 Z a1 p2 cp frv h0 n0 _ T116.heap _
    exact ⟨bC116, bU116, bF116, b83, _, ff116, _, ln116, rfl, N116, Kp125, (by omega), HB116⟩
theorem ef_rm9 (m : MethodId) (x0 : Addr) (x1 : Int32) : entryFrame m #[(.ref x0), (.int x1)] 3 = mkF m 0 #[.val (.ref x0), .val (.int x1), .unset] [] := by first | (simp [entryFrame, mkF, argsToLocals, Value.category]; done) | rfl
def Q9 (Z : State) (a1 : Addr) (p2 : Int32) (low : Int32) (sz : Int32) (bC : Addr) (bU : Addr) (bF : Addr) (bR : Addr) (nC : Nat) (fC : Nat → Value) (u : Nat → Int64) (ff : Nat → Int64) (r : Nat → Int32) (cn : Nat) (frv : Int64) (h0 : Heap) (n0 : Nat) (v : Option Value) (h : Heap) (L : List Loc) : Prop := ∃ (bC' : Addr) (bU' : Addr) (bF' : Addr) (fC' : Nat → Value) (ff' : Nat → Int64) (ln : Nat) (sz' : Int32), v = none ∧ Fr n0 L ∧ Keep h0 h [a1, bU] ∧ cn < ln ∧ nC ≤ ln ∧ (ln = nC ∨ ln = cn + 1 ∨ ln = 2 * nC) ∧ own_C Z h n0 a1 (own_low p2 low ((u (cn / 64)) ||| (own_sh p2))) sz' bC' bU' bF' bR ln ((ln + 63) / 64) (((ln + 63) / 64 + 63) / 64) fC' (fun i => if i = cn / 64 then u i ||| own_sh p2 else u i) ff' r
set_option maxRecDepth 65536 in
set_option maxHeartbeats 40000000 in
theorem rm9 (l : Launch) (Z : State) (a0 : Array Value) (hw : ∀ d ∈ tables_1, d.before a0 Z = true) (ws : List Jvm.Cond) (a1 : Addr) (p2 : Int32) (low : Int32) (sz : Int32) (bC : Addr) (bU : Addr) (bF : Addr) (bR : Addr) (nC : Nat) (fC : Nat → Value) (u : Nat → Int64) (ff : Nat → Int64) (r : Nat → Int32) (cn : Nat) (frv : Int64) (h0 : Heap) (n0 : Nat) (Z0 : n0 ≤ h0.size) (HB : own_C Z h0 n0 a1 low sz bC bU bF bR nC ((nC + 63) / 64) (((nC + 63) / 64 + 63) / 64) fC u ff r) (hp : p2.toInt = cn) (h1 : cn ≤ 511) (h2 : nC ≤ 512) (hz : ∀ i, (nC + 63) / 64 ≤ i → u i = 0) (g_a1 : n0 ≤ a1) (hnf : ¬ ((u (cn / 64)) ||| (own_sh p2)) = -1) (hff : p2 = low → ¬ own_free ((u (cn / 64)) ||| (own_sh p2)) p2 = 0) (Sf : Sta Z h0 "com/example/twinbase/twinbase/DoubleArray" "FREE" "J" (.long frv)) :
    MetFree l (⟨"com/example/twinbase/twinbase/CellSpace", "occupy", "(I)V"⟩ : MethodName) (head1 (Jvm.Cond.code (⟨"com/example/twinbase/twinbase/CellSpace", "occupy", "(I)V"⟩ : MethodName) prog_2_method_11_code 3 none :: ws) ({ frames := 3, cells := 3, slots := 1041, locals := 52 } : Room)) (fun a U => a = #[(.ref a1), (.int p2)] ∧ Z.Warmed39 U.vm ∧ U.heap = h0) (fun _ _ _ _ _ => True) (fun _ U o U' => ∃ v L, o = .returned v ∧ Q9 Z a1 p2 low sz bC bU bF bR nC fC u ff r cn frv h0 n0 v U'.heap L ∧ FrameEnd U o U' L ({ frames := 3, cells := 3, slots := 1041, locals := 52 } : Room).cells ({ frames := 3, cells := 3, slots := 1041, locals := 52 } : Room).slots) := by
  refine MetFree.of_bodySF (plainFor_of_name pn_9) hisR ?_
  intro p e s m args below meth c s₁ Bd hml0 hP hK
  obtain ⟨rfl, hZ, hh⟩ := hP
  have hx := Bd.exec
  have hby := Bd.bytes
  have hml : c.maxLocals = 3 := hml0
  have hown : s.vm.findClass "com/example/twinbase/twinbase/CellSpace" = some m.cls := findClass_of_methodNamed Bd.named
  have hnm := (name_of_methodNamed Bd.named Bd.method).1
  have X0 : Stand p l e ({ frames := 3, cells := 3, slots := 1041, locals := 52 } : Room) s m #[(.ref a1), (.int p2)] below meth c s₁ [] 0 0 := Stand.of_body Bd
  have e0 : s₁.heap = h0 := by rw [← hh, Bd.state]; rfl
  have N0 := Fr.nil n0
  have a0s : ∀ t, Steps p.tables e below (s₁.setTop (mkF m 0 #[.val (.ref a1), .val (.int p2), .unset] [])) t → Steps p.tables e below (s₁.setTop (entryFrame m #[(.ref a1), (.int p2)] 3)) t := fun t k => castTop (ef_rm9 m a1 p2) k
  obtain ⟨E1, F_0, F_1, F_2, F_3, F_lo, F_sz, V_0, V_1, V_2, V_3, E_C, E_U, E_F, ne_a1_bC, ne_a1_bU, ne_a1_bF, ne_a1_bR, ne_bC_bU, ne_bC_bF, ne_bC_bR, ne_bU_bF, ne_bU_bR, ne_bF_bR, g_bC, g_bU, g_bF, g_bR⟩ := id HB
  have ac1 : ∀ t, Steps p.tables e below (s₁.setTop (mkF m 2 #[.val (.ref a1), .val (.int p2), .unset] [(.ref a1), (.int p2)])) t → Steps p.tables e below (s₁.setTop (entryFrame m #[(.ref a1), (.int p2)] 3)) t := fun t k => a0s t (by
      show Steps p.tables e below (s₁.setTop (mkF m 0 #[.val (.ref a1), .val (.int p2), .unset] [])) _
      refine XS.iloadN X0.here hx rfl (hb hby d9_0) rfl ?_
      show Steps p.tables e below (s₁.setTop (mkF m 1 #[.val (.ref a1), .val (.int p2), .unset] [(.int p2)])) _
      refine XS.aloadN X0.here hx rfl (hb hby d9_1) rfl rfl ?_
      exact k)
  obtain ⟨T2, X2, e2, st2⟩ := getF X0 hx hZ hown (host := "") (Or.inl (hw _ (List.mem_of_getElem? (i := 10) rfl))) Via.refl e0 F_0 (g := (mkF m 2 #[.val (.ref a1), .val (.int p2), .unset] [(.ref a1), (.int p2)])) rfl rfl (hb hby d9_2)
  have ac3 : ∀ t, Steps p.tables e below (T2.setTop (mkF m 5 #[.val (.ref a1), .val (.int p2), .unset] [(.ref bC), (.int p2)])) t → Steps p.tables e below (s₁.setTop (entryFrame m #[(.ref a1), (.int p2)] 3)) t := fun t k => ac1 t (st2 t k)
  obtain ⟨cl4, Ac4, hl4, hb4⟩ := V_0.len
  have hnC := own_ofNat hb4
  have ac5 : ∀ t, Steps p.tables e below (T2.setTop (mkF m 6 #[.val (.ref a1), .val (.int p2), .unset] [(.int (Int32.ofNat nC)), (.int p2)])) t → Steps p.tables e below (s₁.setTop (entryFrame m #[(.ref a1), (.int p2)] 3)) t := fun t k => ac3 t (by
      show Steps p.tables e below (T2.setTop (mkF m 5 #[.val (.ref a1), .val (.int p2), .unset] [(.ref bC), (.int p2)])) _
      refine X2.arraylength hx (by rw [e2]; exact Ac4.1) (State.isArrayOf_alike hZ.alike Ac4.2.1) (g := (mkF m 5 #[.val (.ref a1), .val (.int p2), .unset] [(.ref bC), (.int p2)])) rfl rfl (hb hby d9_5) _ ?_
      rw [hl4]
      exact k)
  obtain ⟨T6, h6, Lc6, cC, cU, cF, gC, gF, ln, X6, e6, N6, Z6, Kp6_, hj1, hj2, hj3, hjU, HJ, ac6_⟩ : ∃ (T' : State) (h' : Heap) (L' : List Loc) (cC : Addr) (cU : Addr) (cF : Addr) (gC : Nat → Value) (gF : Nat → Int64) (ln : Nat), own_StX X2 T' L' 3 1041 ∧ T'.heap = h' ∧ Fr n0 L' ∧ n0 ≤ h'.size ∧ Keep h0 h' [a1, bU] ∧ cn < ln ∧ nC ≤ ln ∧ (ln = nC ∨ ln = cn + 1 ∨ ln = 2 * nC) ∧ (cU = bU ∨ h0.size ≤ cU) ∧ own_C Z h' n0 a1 low sz cC cU cF bR ln ((ln + 63) / 64) (((ln + 63) / 64 + 63) / 64) gC u gF r ∧ ∀ t, Steps p.tables e below (T'.setTop (mkF m 16 #[.val (.ref a1), .val (.int p2), .unset] [])) t → Steps p.tables e below (s₁.setTop (entryFrame m #[(.ref a1), (.int p2)] 3)) t := by
    by_cases hlt : p2 < (Int32.ofNat nC)
    ·
      have hlti := Int32.lt_iff_toInt_lt.mp hlt
      have ac7 : ∀ t, Steps p.tables e below (T2.setTop (mkF m 16 #[.val (.ref a1), .val (.int p2), .unset] [])) t → Steps p.tables e below (s₁.setTop (entryFrame m #[(.ref a1), (.int p2)] 3)) t := fun t k => ac5 t (by
          show Steps p.tables e below (T2.setTop (mkF m 6 #[.val (.ref a1), .val (.int p2), .unset] [(.int (Int32.ofNat nC)), (.int p2)])) _
          refine XS.icmpYes X2.here hx rfl (pc0 := 6) (pc' := 16) rfl (hb hby d9_6) rfl (tlt hlt).1 (by decide) (by decide) ?_
          exact k)
      exact ⟨T2, h0, _, bC, bU, bF, fC, ff, nC, (X2.more (by decide) (by decide)), e2, N0, Z0, (Keep.refl h0 [a1, bU]), (by omega), (Nat.le_refl _), (Or.inl rfl), (Or.inl rfl), HB, ac7⟩
    ·
      have hlti := mt Int32.lt_iff_toInt_lt.mpr hlt
      have hp1 : (p2 + 1).toInt = (cn + 1 : Nat) := by have a := c_iadd p2 1; have b := rng32 (p2 + 1); have z : (1 : Int32).toInt = 1 := rfl; omega
      have ac8 : ∀ t, Steps p.tables e below (T2.setTop (mkF m 13 #[.val (.ref a1), .val (.int p2), .unset] [(.int (p2 + (1 : Int32))), (.ref a1)])) t → Steps p.tables e below (s₁.setTop (entryFrame m #[(.ref a1), (.int p2)] 3)) t := fun t k => ac5 t (by
          show Steps p.tables e below (T2.setTop (mkF m 6 #[.val (.ref a1), .val (.int p2), .unset] [(.int (Int32.ofNat nC)), (.int p2)])) _
          refine XS.icmpNo X2.here hx rfl (hb hby d9_6) rfl (flt hlt).1 ?_
          show Steps p.tables e below (T2.setTop (mkF m 9 #[.val (.ref a1), .val (.int p2), .unset] [])) _
          refine XS.aloadN X2.here hx rfl (hb hby d9_9) rfl rfl ?_
          show Steps p.tables e below (T2.setTop (mkF m 10 #[.val (.ref a1), .val (.int p2), .unset] [(.ref a1)])) _
          refine XS.iloadN X2.here hx rfl (hb hby d9_10) rfl ?_
          show Steps p.tables e below (T2.setTop (mkF m 11 #[.val (.ref a1), .val (.int p2), .unset] [(.int p2), (.ref a1)])) _
          refine XS.iconst X2.here hx rfl (hb hby d9_11) ?_
          show Steps p.tables e below (T2.setTop (mkF m 12 #[.val (.ref a1), .val (.int p2), .unset] [(.int (1 : Int32)), (.int p2), (.ref a1)])) _
          refine XS.iadd X2.here hx rfl (hb hby d9_12) rfl ?_
          exact k)
      obtain ⟨cq9, q9, q9'⟩ := E1.cell
      obtain ⟨_, _, ⟨T9, L9, k9, n9⟩, -, X9, ⟨Lc9, hQ9, l9, y9, z9⟩, st9⟩ := X2.privateBack hx (y := (⟨"com/example/twinbase/twinbase/CellSpace", "grow", "(I)V"⟩ : MethodName)) hown (mvT hZ (hw _ (List.mem_of_getElem? (i := 19) rfl))) (mvT hZ (hw _ (List.mem_of_getElem? (i := 20) rfl))) (own_selfsel hZ (hw _ (List.mem_of_getElem? (i := 1) rfl)) (hw _ (List.mem_of_getElem? (i := 21) rfl)) (hw _ (List.mem_of_getElem? (i := 20) rfl)) (by decide)) (Cond.privateMethod_at (mvP hZ (hw _ (List.mem_of_getElem? (i := 21) rfl)) (args := #[]))) (mvT hZ (hw _ (List.mem_of_getElem? (i := 22) rfl))) (by decide) (backOf (W := 0) (rm3 l Z a0 hw [] a1 (p2 + (1 : Int32)) _ _ bC bU bF bR nC _ _ _ u _ _ (cn + 1) frv h0 n0 Z0 HB rfl rfl hp1 (by omega) (by omega) hz g_a1 Sf) hZ (hw _ (List.mem_of_getElem? (i := 22) rfl)) (hw _ (List.mem_of_getElem? (i := 2) rfl)) (by decide) (by decide)) (g := (mkF m 13 #[.val (.ref a1), .val (.int p2), .unset] [(.int (p2 + (1 : Int32))), (.ref a1)])) rfl (by rw [hml]; rfl) (Steps.refl _) (a := a1) (by rw [e2]; exact q9) q9' (argsL := [(.int (p2 + (1 : Int32)))]) (rest := []) (lenOf pd_0 rfl) rfl (by show 2 * 0 + _ ≤ _; exact Nat.le_of_eq rfl) (hb hby d9_13) (fun _ _ => ⟨rfl, e2, (by decide : 0 + 3 ≤ _), (by decide : 0 + 1041 ≤ _)⟩)
      dsimp only [Pt.U, Pt.locs, Pt.cells, Pt.slots] at X9 l9 y9 z9 st9 hQ9
      subst l9 y9 z9
      obtain ⟨bC9, bU9, bF9, fC9, ff9, ln9, rfl, N9q, K9q, q19, q29, q39, q49, sz9, HB9⟩ := hQ9
      have N9 := Fr.app N0 N9q
      have Ef10 := E1.keep K9q
      have Vf11 := V_0.keep K9q (ninS (Ne.symm ne_a1_bC) nin0)
      have Vf12 := V_1.keep K9q (ninS (Ne.symm ne_a1_bU) nin0)
      have Vf13 := V_2.keep K9q (ninS (Ne.symm ne_a1_bF) nin0)
      have Vf14 := V_3.keep K9q (ninS (Ne.symm ne_a1_bR) nin0)
      have Ef15 := E_C.keep K9q
      have Ef16 := E_U.keep K9q
      have Ef17 := E_F.keep K9q
      have Z9 : n0 ≤ T9.heap.size := Nat.le_trans Z0 K9q.1
      have Kp18 : Keep h0 T9.heap [a1, bU] := (Keep.refl h0 [a1, bU]).trans K9q (allS (Or.inl (List.mem_of_getElem? (i := 0) rfl)) all0)
      have ac19 : ∀ t, Steps p.tables e below (T9.setTop (mkF m 16 #[.val (.ref a1), .val (.int p2), .unset] [])) t → Steps p.tables e below (s₁.setTop (entryFrame m #[(.ref a1), (.int p2)] 3)) t := fun t k => ac8 t (st9.trans k)
      exact ⟨T9, T9.heap, _, bC9, bU9, bF9, fC9, ff9, ln9, X9, rfl, N9, Z9, Kp18, (by omega), q29, (by omega), (Or.inr sz9), HB9, ac19⟩
  have E1o := E1
  have E_Uo := E_U
  obtain ⟨E1, F_0, F_1, F_2, F_3, F_lo, F_sz, V_0, V_1, V_2, V_3, E_C, E_U, E_F, ne_a1_cC, ne_a1_cU, ne_a1_cF, ne_a1_bR, ne_cC_cU, ne_cC_cF, ne_cC_bR, ne_cU_cF, ne_cU_bR, ne_cF_bR, g_cC, g_cU, g_cF, g_bR⟩ := id HJ
  have hcUw : cU ∈ [a1, bU] ∨ h0.size ≤ cU := hjU.elim (fun q => Or.inl (by rw [q]; exact List.mem_of_getElem? (i := 1) rfl)) Or.inr
  have ac20 : ∀ t, Steps p.tables e below (T6.setTop (mkF m 20 #[.val (.ref a1), .val (.int p2), .unset] [(.int ((p2.toUInt32 >>> ((6 : Int32) &&& 31).toUInt32).toInt32))])) t → Steps p.tables e below (s₁.setTop (entryFrame m #[(.ref a1), (.int p2)] 3)) t := fun t k => ac6_ t (by
      show Steps p.tables e below (T6.setTop (mkF m 16 #[.val (.ref a1), .val (.int p2), .unset] [])) _
      refine XS.iloadN X6.here hx rfl (hb hby d9_16) rfl ?_
      show Steps p.tables e below (T6.setTop (mkF m 17 #[.val (.ref a1), .val (.int p2), .unset] [(.int p2)])) _
      refine XS.bipush X6.here hx rfl (hb hby d9_17) ?_
      show Steps p.tables e below (T6.setTop (mkF m 19 #[.val (.ref a1), .val (.int p2), .unset] [(.int (6 : Int32)), (.int p2)])) _
      refine XS.iushr X6.here hx rfl (hb hby d9_19) rfl ?_
      exact k)
  have ac21 : ∀ t, Steps p.tables e below (T6.setTop (mkF m 20 #[.val (.ref a1), .val (.int p2), .unset] [(.int (own_wd p2))])) t → Steps p.tables e below (s₁.setTop (entryFrame m #[(.ref a1), (.int p2)] 3)) t := ac20
  have hwd := own_wd_v hp
  have hwU : cn / 64 < (ln + 63) / 64 := by omega
  have ac22 : ∀ t, Steps p.tables e below (T6.setTop (mkF m 22 #[.val (.ref a1), .val (.int p2), .val (.int (own_wd p2))] [(.ref a1)])) t → Steps p.tables e below (s₁.setTop (entryFrame m #[(.ref a1), (.int p2)] 3)) t := fun t k => ac21 t (by
      show Steps p.tables e below (T6.setTop (mkF m 20 #[.val (.ref a1), .val (.int p2), .unset] [(.int (own_wd p2))])) _
      refine XS.istoreN X6.here hx rfl (hb hby d9_20) rfl (l' := #[.val (.ref a1), .val (.int p2), .val (.int (own_wd p2))]) rfl ?_
      show Steps p.tables e below (T6.setTop (mkF m 21 #[.val (.ref a1), .val (.int p2), .val (.int (own_wd p2))] [])) _
      refine XS.aloadN X6.here hx rfl (hb hby d9_21) rfl rfl ?_
      exact k)
  obtain ⟨T23, X23, e23, st23⟩ := getF X6 hx hZ hown (host := "") (Or.inl (hw _ (List.mem_of_getElem? (i := 12) rfl))) Via.refl e6 F_1 (g := (mkF m 22 #[.val (.ref a1), .val (.int p2), .val (.int (own_wd p2))] [(.ref a1)])) rfl rfl (hb hby d9_22)
  have ac24 : ∀ t, Steps p.tables e below (T23.setTop (mkF m 25 #[.val (.ref a1), .val (.int p2), .val (.int (own_wd p2))] [(.ref cU)])) t → Steps p.tables e below (s₁.setTop (entryFrame m #[(.ref a1), (.int p2)] 3)) t := fun t k => ac22 t (st23 t k)
  have ac25 : ∀ t, Steps p.tables e below (T23.setTop (mkF m 27 #[.val (.ref a1), .val (.int p2), .val (.int (own_wd p2))] [(.int (own_wd p2)), (.ref cU), (.int (own_wd p2)), (.ref cU)])) t → Steps p.tables e below (s₁.setTop (entryFrame m #[(.ref a1), (.int p2)] 3)) t := fun t k => ac24 t (by
      show Steps p.tables e below (T23.setTop (mkF m 25 #[.val (.ref a1), .val (.int p2), .val (.int (own_wd p2))] [(.ref cU)])) _
      refine XS.iloadN X23.here hx rfl (hb hby d9_25) rfl ?_
      show Steps p.tables e below (T23.setTop (mkF m 26 #[.val (.ref a1), .val (.int p2), .val (.int (own_wd p2))] [(.int (own_wd p2)), (.ref cU)])) _
      refine XT.dup2 X23.here hx rfl (hb hby d9_26) rfl rfl rfl ?_
      exact k)
  obtain ⟨cl26, Ac26, hin26, hat26⟩ := V_1.at (j := (own_wd p2)) (i := (cn / 64)) hwd hwU
  have ac27 : ∀ t, Steps p.tables e below (T23.setTop (mkF m 31 #[.val (.ref a1), .val (.int p2), .val (.int (own_wd p2))] [(.long ((1 : Int64) <<< (p2 &&& 0x3f).toInt64)), (.long (u (cn / 64))), (.int (own_wd p2)), (.ref cU)])) t → Steps p.tables e below (s₁.setTop (entryFrame m #[(.ref a1), (.int p2)] 3)) t := fun t k => ac25 t (by
      show Steps p.tables e below (T23.setTop (mkF m 27 #[.val (.ref a1), .val (.int p2), .val (.int (own_wd p2))] [(.int (own_wd p2)), (.ref cU), (.int (own_wd p2)), (.ref cU)])) _
      refine X23.laload hx (j := (own_wd p2)) (v := (.long (u (cn / 64)))) (by rw [e23]; exact Ac26.1) (State.isArrayOf_alike hZ.alike Ac26.2.1) Ac26.2.2 hin26 (hat26.trans (congrArg some rfl)) (g := (mkF m 27 #[.val (.ref a1), .val (.int p2), .val (.int (own_wd p2))] [(.int (own_wd p2)), (.ref cU), (.int (own_wd p2)), (.ref cU)])) rfl rfl (hb hby d9_27) _ ?_
      show Steps p.tables e below (T23.setTop (mkF m 28 #[.val (.ref a1), .val (.int p2), .val (.int (own_wd p2))] [(.long (u (cn / 64))), (.int (own_wd p2)), (.ref cU)])) _
      refine XS.lconst X23.here hx rfl (hb hby d9_28) ?_
      show Steps p.tables e below (T23.setTop (mkF m 29 #[.val (.ref a1), .val (.int p2), .val (.int (own_wd p2))] [(.long (1 : Int64)), (.long (u (cn / 64))), (.int (own_wd p2)), (.ref cU)])) _
      refine XS.iloadN X23.here hx rfl (hb hby d9_29) rfl ?_
      show Steps p.tables e below (T23.setTop (mkF m 30 #[.val (.ref a1), .val (.int p2), .val (.int (own_wd p2))] [(.int p2), (.long (1 : Int64)), (.long (u (cn / 64))), (.int (own_wd p2)), (.ref cU)])) _
      refine XS.lshl X23.here hx rfl (hb hby d9_30) rfl ?_
      exact k)
  have ac28 : ∀ t, Steps p.tables e below (T23.setTop (mkF m 31 #[.val (.ref a1), .val (.int p2), .val (.int (own_wd p2))] [(.long (own_sh p2)), (.long (u (cn / 64))), (.int (own_wd p2)), (.ref cU)])) t → Steps p.tables e below (s₁.setTop (entryFrame m #[(.ref a1), (.int p2)] 3)) t := ac27
  have ac29 : ∀ t, Steps p.tables e below (T23.setTop (mkF m 32 #[.val (.ref a1), .val (.int p2), .val (.int (own_wd p2))] [(.long ((u (cn / 64)) ||| (own_sh p2))), (.int (own_wd p2)), (.ref cU)])) t → Steps p.tables e below (s₁.setTop (entryFrame m #[(.ref a1), (.int p2)] 3)) t := fun t k => ac28 t (by
      show Steps p.tables e below (T23.setTop (mkF m 31 #[.val (.ref a1), .val (.int p2), .val (.int (own_wd p2))] [(.long (own_sh p2)), (.long (u (cn / 64))), (.int (own_wd p2)), (.ref cU)])) _
      refine XS.lor X23.here hx rfl (hb hby d9_31) rfl ?_
      exact k)
  obtain ⟨cl30, Ac30, hin30, -⟩ := V_1.at (j := (own_wd p2)) (i := (cn / 64)) hwd hwU
  obtain ⟨T30, h30, X30, e30, W30, st30⟩ := stJ X23 hx hZ e23 Ac30 (j := (own_wd p2)) hin30 (g := (mkF m 32 #[.val (.ref a1), .val (.int p2), .val (.int (own_wd p2))] [(.long ((u (cn / 64)) ||| (own_sh p2))), (.int (own_wd p2)), (.ref cU)])) rfl rfl (hb hby d9_32)
  have V30 := V_1.set (i := (cn / 64)) hwd W30 rfl
  have Ef31 := E1.wr W30
  have Ff32 := F_lo.other W30 (Or.inl ne_a1_cU)
  have Ff33 := F_sz.other W30 (Or.inl ne_a1_cU)
  have Ff34 := F_0.other W30 (Or.inl ne_a1_cU)
  have Ff35 := F_1.other W30 (Or.inl ne_a1_cU)
  have Ff36 := F_2.other W30 (Or.inl ne_a1_cU)
  have Ff37 := F_3.other W30 (Or.inl ne_a1_cU)
  have Vf38 := V_0.other W30 ne_cC_cU
  have Vf39 := V_2.other W30 (Ne.symm ne_cU_cF)
  have Vf40 := V_3.other W30 (Ne.symm ne_cU_bR)
  have Ef41 := E_C.wr W30
  have Ef42 := E_U.wr W30
  have Ef43 := E_F.wr W30
  have N30 := Fr.snoc X30 N6 g_cU
  have Z30 : n0 ≤ h30.size := Nat.le_trans Z6 (Keep.of_wr W30).1
  have Kp44 : Keep h0 h30 [a1, bU] := Kp6_.wr W30 hcUw
  have ac45 : ∀ t, Steps p.tables e below (T30.setTop (mkF m 33 #[.val (.ref a1), .val (.int p2), .val (.int (own_wd p2))] [])) t → Steps p.tables e below (s₁.setTop (entryFrame m #[(.ref a1), (.int p2)] 3)) t := fun t k => ac29 t (st30 t k)
  have ac46 : ∀ t, Steps p.tables e below (T30.setTop (mkF m 34 #[.val (.ref a1), .val (.int p2), .val (.int (own_wd p2))] [(.ref a1)])) t → Steps p.tables e below (s₁.setTop (entryFrame m #[(.ref a1), (.int p2)] 3)) t := fun t k => ac45 t (by
      show Steps p.tables e below (T30.setTop (mkF m 33 #[.val (.ref a1), .val (.int p2), .val (.int (own_wd p2))] [])) _
      refine XS.aloadN X30.here hx rfl (hb hby d9_33) rfl rfl ?_
      exact k)
  obtain ⟨T47, X47, e47, st47⟩ := getF X30 hx hZ hown (host := "") (Or.inl (hw _ (List.mem_of_getElem? (i := 12) rfl))) Via.refl e30 Ff35 (g := (mkF m 34 #[.val (.ref a1), .val (.int p2), .val (.int (own_wd p2))] [(.ref a1)])) rfl rfl (hb hby d9_34)
  have ac48 : ∀ t, Steps p.tables e below (T47.setTop (mkF m 37 #[.val (.ref a1), .val (.int p2), .val (.int (own_wd p2))] [(.ref cU)])) t → Steps p.tables e below (s₁.setTop (entryFrame m #[(.ref a1), (.int p2)] 3)) t := fun t k => ac46 t (st47 t k)
  have ac49 : ∀ t, Steps p.tables e below (T47.setTop (mkF m 38 #[.val (.ref a1), .val (.int p2), .val (.int (own_wd p2))] [(.int (own_wd p2)), (.ref cU)])) t → Steps p.tables e below (s₁.setTop (entryFrame m #[(.ref a1), (.int p2)] 3)) t := fun t k => ac48 t (by
      show Steps p.tables e below (T47.setTop (mkF m 37 #[.val (.ref a1), .val (.int p2), .val (.int (own_wd p2))] [(.ref cU)])) _
      refine XS.iloadN X47.here hx rfl (hb hby d9_37) rfl ?_
      exact k)
  obtain ⟨cl50, Ac50, hin50, hat50⟩ := V30.at (j := (own_wd p2)) (i := (cn / 64)) hwd hwU
  have ac51 : ∀ t, Steps p.tables e below (T47.setTop (mkF m 63 #[.val (.ref a1), .val (.int p2), .val (.int (own_wd p2))] [(.ref a1), (.ref a1)])) t → Steps p.tables e below (s₁.setTop (entryFrame m #[(.ref a1), (.int p2)] 3)) t := fun t k => ac49 t (by
      show Steps p.tables e below (T47.setTop (mkF m 38 #[.val (.ref a1), .val (.int p2), .val (.int (own_wd p2))] [(.int (own_wd p2)), (.ref cU)])) _
      refine X47.laload hx (j := (own_wd p2)) (v := (.long ((u (cn / 64)) ||| (own_sh p2)))) (by rw [e47]; exact Ac50.1) (State.isArrayOf_alike hZ.alike Ac50.2.1) Ac50.2.2 hin50 (hat50.trans (congrArg some (if_pos rfl))) (g := (mkF m 38 #[.val (.ref a1), .val (.int p2), .val (.int (own_wd p2))] [(.int (own_wd p2)), (.ref cU)])) rfl rfl (hb hby d9_38) _ ?_
      show Steps p.tables e below (T47.setTop (mkF m 39 #[.val (.ref a1), .val (.int p2), .val (.int (own_wd p2))] [(.long ((u (cn / 64)) ||| (own_sh p2)))])) _
      refine X47.ldc2Long hx hown (mvT hZ (hw _ (List.mem_of_getElem? (i := 67) rfl))) (g := (mkF m 39 #[.val (.ref a1), .val (.int p2), .val (.int (own_wd p2))] [(.long ((u (cn / 64)) ||| (own_sh p2)))])) rfl (hb hby d9_39) _ ?_
      show Steps p.tables e below (T47.setTop (mkF m 42 #[.val (.ref a1), .val (.int p2), .val (.int (own_wd p2))] [(.long (-1 : Int64)), (.long ((u (cn / 64)) ||| (own_sh p2)))])) _
      refine XS.lcmp X47.here hx rfl (hb hby d9_42) rfl ?_
      show Steps p.tables e below (T47.setTop (mkF m 43 #[.val (.ref a1), .val (.int p2), .val (.int (own_wd p2))] [(.int (lcmpW ((u (cn / 64)) ||| (own_sh p2)) (-1 : Int64)))])) _
      refine XS.ifYes X47.here hx rfl (pc0 := 43) (pc' := 61) rfl (hb hby d9_43) rfl ((if0 _ _).trans (feq (mt (lw_eq _ _).mp hnf)).2) (by decide) (by decide) ?_
      show Steps p.tables e below (T47.setTop (mkF m 61 #[.val (.ref a1), .val (.int p2), .val (.int (own_wd p2))] [])) _
      refine XS.aloadN X47.here hx rfl (hb hby d9_61) rfl rfl ?_
      show Steps p.tables e below (T47.setTop (mkF m 62 #[.val (.ref a1), .val (.int p2), .val (.int (own_wd p2))] [(.ref a1)])) _
      refine XS.aloadN X47.here hx rfl (hb hby d9_62) rfl rfl ?_
      exact k)
  obtain ⟨T52, X52, e52, st52⟩ := getF X47 hx hZ hown (host := "") (Or.inl (hw _ (List.mem_of_getElem? (i := 68) rfl))) Via.refl e47 Ff33 (g := (mkF m 63 #[.val (.ref a1), .val (.int p2), .val (.int (own_wd p2))] [(.ref a1), (.ref a1)])) rfl rfl (hb hby d9_63)
  have ac53 : ∀ t, Steps p.tables e below (T52.setTop (mkF m 66 #[.val (.ref a1), .val (.int p2), .val (.int (own_wd p2))] [(.int sz), (.ref a1)])) t → Steps p.tables e below (s₁.setTop (entryFrame m #[(.ref a1), (.int p2)] 3)) t := fun t k => ac51 t (st52 t k)
  have ac54 : ∀ t, Steps p.tables e below (T52.setTop (mkF m 69 #[.val (.ref a1), .val (.int p2), .val (.int (own_wd p2))] [(.int (p2 + (1 : Int32))), (.int sz), (.ref a1)])) t → Steps p.tables e below (s₁.setTop (entryFrame m #[(.ref a1), (.int p2)] 3)) t := fun t k => ac53 t (by
      show Steps p.tables e below (T52.setTop (mkF m 66 #[.val (.ref a1), .val (.int p2), .val (.int (own_wd p2))] [(.int sz), (.ref a1)])) _
      refine XS.iloadN X52.here hx rfl (hb hby d9_66) rfl ?_
      show Steps p.tables e below (T52.setTop (mkF m 67 #[.val (.ref a1), .val (.int p2), .val (.int (own_wd p2))] [(.int p2), (.int sz), (.ref a1)])) _
      refine XS.iconst X52.here hx rfl (hb hby d9_67) ?_
      show Steps p.tables e below (T52.setTop (mkF m 68 #[.val (.ref a1), .val (.int p2), .val (.int (own_wd p2))] [(.int (1 : Int32)), (.int p2), (.int sz), (.ref a1)])) _
      refine XS.iadd X52.here hx rfl (hb hby d9_68) rfl ?_
      exact k)
  obtain ⟨_, _, ⟨T55, L55, k55, n55⟩, -, X55, ⟨Lc55, hQ55, l55, y55, z55⟩, st55⟩ := Jvm.LawKit.callS X52 hx (y := (⟨"java/lang/Math", "max", "(II)I"⟩ : MethodName)) hown (mvT hZ (hw _ (List.mem_of_getElem? (i := 70) rfl))) (mvT hZ (hw _ (List.mem_of_getElem? (i := 71) rfl))) (mvT hZ (hw _ (List.mem_of_getElem? (i := 28) rfl))) (mvT hZ (hw _ (List.mem_of_getElem? (i := 72) rfl))) (by decide) (backOf (W := 1) (rm11 l Z a0 hw [] sz (p2 + (1 : Int32))  h30 n0 Z30 ) hZ (hw _ (List.mem_of_getElem? (i := 72) rfl)) (hw _ (List.mem_of_getElem? (i := 28) rfl)) (by decide) (by decide)) (g := (mkF m 69 #[.val (.ref a1), .val (.int p2), .val (.int (own_wd p2))] [(.int (p2 + (1 : Int32))), (.int sz), (.ref a1)])) rfl (by rw [hml]; rfl) (argsL := [(.int sz), (.int (p2 + (1 : Int32)))]) (rest := [(.ref a1)]) (lenOf pd_7 rfl) rfl (by show 2 * 0 + _ ≤ _; exact Nat.le_of_eq rfl) (hb hby d9_69) (fun _ _ => ⟨rfl, e52, (by decide : 3 + 0 ≤ _), (by decide : 1041 + 0 ≤ _)⟩)
  dsimp only [Pt.U, Pt.locs, Pt.cells, Pt.slots] at X55 l55 y55 z55 st55 hQ55
  subst l55 y55 z55
  obtain ⟨rfl, N55q, Qe55⟩ := hQ55
  have N55 := Fr.app N30 N55q
  have ac56 : ∀ t, Steps p.tables e below (T55.setTop (mkF m 72 #[.val (.ref a1), .val (.int p2), .val (.int (own_wd p2))] [(.int (own_max sz (p2 + (1 : Int32)))), (.ref a1)])) t → Steps p.tables e below (s₁.setTop (entryFrame m #[(.ref a1), (.int p2)] 3)) t := fun t k => ac54 t (st55 t k)
  obtain ⟨T57, h57, X57, e57, W57, st57⟩ := putF X55 hx hZ hown (host := "") (Or.inl (hw _ (List.mem_of_getElem? (i := 68) rfl))) Via.refl Qe55 Ff33 Ef31 (Or.inl (hw _ (List.mem_of_getElem? (i := 69) rfl))) (hw _ (List.mem_of_getElem? (i := 1) rfl)) (ty := .int) (by decide) rfl rfl (g := (mkF m 72 #[.val (.ref a1), .val (.int p2), .val (.int (own_wd p2))] [(.int (own_max sz (p2 + (1 : Int32)))), (.ref a1)])) rfl rfl (hb hby d9_72)
  have Fw57 := Ff33.same W57
  have Ef58 := Ef31.wr W57
  have Ff59 := Ff32.other W57 (Or.inr (slot_ne (Or.inl (hw _ (List.mem_of_getElem? (i := 74) rfl))) (Or.inl (hw _ (List.mem_of_getElem? (i := 69) rfl))) (by decide) (t := .int) (t' := .int) (by decide) (by decide)))
  have Ff60 := Ff34.other W57 (Or.inr (slot_ne (Or.inl (hw _ (List.mem_of_getElem? (i := 11) rfl))) (Or.inl (hw _ (List.mem_of_getElem? (i := 69) rfl))) (by decide) (t := (.array .long)) (t' := .int) (by decide) (by decide)))
  have Ff61 := Ff35.other W57 (Or.inr (slot_ne (Or.inl (hw _ (List.mem_of_getElem? (i := 13) rfl))) (Or.inl (hw _ (List.mem_of_getElem? (i := 69) rfl))) (by decide) (t := (.array .long)) (t' := .int) (by decide) (by decide)))
  have Ff62 := Ff36.other W57 (Or.inr (slot_ne (Or.inl (hw _ (List.mem_of_getElem? (i := 15) rfl))) (Or.inl (hw _ (List.mem_of_getElem? (i := 69) rfl))) (by decide) (t := (.array .long)) (t' := .int) (by decide) (by decide)))
  have Ff63 := Ff37.other W57 (Or.inr (slot_ne (Or.inr (hw _ (List.mem_of_getElem? (i := 18) rfl))) (Or.inl (hw _ (List.mem_of_getElem? (i := 69) rfl))) (by decide) (t := (.array .int)) (t' := .int) (by decide) (by decide)))
  have Vf64 := Vf38.other W57 (Ne.symm ne_a1_cC)
  have Vf65 := Vf39.other W57 (Ne.symm ne_a1_cF)
  have Vf66 := Vf40.other W57 (Ne.symm ne_a1_bR)
  have Ef67 := Ef41.wr W57
  have Ef68 := Ef42.wr W57
  have Ef69 := Ef43.wr W57
  have Vf70 := V30.other W57 (Ne.symm ne_a1_cU)
  have N57 := Fr.snoc X57 N55 g_a1
  have Z57 : n0 ≤ h57.size := Nat.le_trans Z30 (Keep.of_wr W57).1
  have Kp71 : Keep h0 h57 [a1, bU] := Kp44.wr W57 (Or.inl (List.mem_of_getElem? (i := 0) rfl))
  have ac72 : ∀ t, Steps p.tables e below (T57.setTop (mkF m 75 #[.val (.ref a1), .val (.int p2), .val (.int (own_wd p2))] [])) t → Steps p.tables e below (s₁.setTop (entryFrame m #[(.ref a1), (.int p2)] 3)) t := fun t k => ac56 t (st57 t k)
  have ac73 : ∀ t, Steps p.tables e below (T57.setTop (mkF m 77 #[.val (.ref a1), .val (.int p2), .val (.int (own_wd p2))] [(.ref a1), (.int p2)])) t → Steps p.tables e below (s₁.setTop (entryFrame m #[(.ref a1), (.int p2)] 3)) t := fun t k => ac72 t (by
      show Steps p.tables e below (T57.setTop (mkF m 75 #[.val (.ref a1), .val (.int p2), .val (.int (own_wd p2))] [])) _
      refine XS.iloadN X57.here hx rfl (hb hby d9_75) rfl ?_
      show Steps p.tables e below (T57.setTop (mkF m 76 #[.val (.ref a1), .val (.int p2), .val (.int (own_wd p2))] [(.int p2)])) _
      refine XS.aloadN X57.here hx rfl (hb hby d9_76) rfl rfl ?_
      exact k)
  obtain ⟨T74, X74, e74, st74⟩ := getF X57 hx hZ hown (host := "") (Or.inl (hw _ (List.mem_of_getElem? (i := 73) rfl))) Via.refl e57 Ff59 (g := (mkF m 77 #[.val (.ref a1), .val (.int p2), .val (.int (own_wd p2))] [(.ref a1), (.int p2)])) rfl rfl (hb hby d9_77)
  have ac75 : ∀ t, Steps p.tables e below (T74.setTop (mkF m 80 #[.val (.ref a1), .val (.int p2), .val (.int (own_wd p2))] [(.int low), (.int p2)])) t → Steps p.tables e below (s₁.setTop (entryFrame m #[(.ref a1), (.int p2)] 3)) t := fun t k => ac73 t (st74 t k)
  have V76 : own_Ar Z h57 cU .long ((ln + 63) / 64) (fun i => .long ((fun i => if i = cn / 64 then u i ||| own_sh p2 else u i) i)) := Vf70.eq (fun i hi => by dsimp only; by_cases q : i = cn / 64; rw [if_pos q, if_pos q, q]; rw [if_neg q, if_neg q])
  by_cases hlo : p2 = low
  ·
    have hpL : p2.toInt64.toInt = cn := by rw [c_i2l]; exact hp
    have hpI : p2.toInt64.toInt32 = p2 := own_eq_of (by rw [own_l2i_v hpL (by omega)]; exact hp.symm)
    have ac77 : ∀ t, Steps p.tables e below (T74.setTop (mkF m 87 #[.val (.ref a1), .val (.int p2), .val (.int (own_wd p2))] [(.long (p2.toInt64)), (.ref a1), (.ref a1)])) t → Steps p.tables e below (s₁.setTop (entryFrame m #[(.ref a1), (.int p2)] 3)) t := fun t k => ac75 t (by
        show Steps p.tables e below (T74.setTop (mkF m 80 #[.val (.ref a1), .val (.int p2), .val (.int (own_wd p2))] [(.int low), (.int p2)])) _
        refine XS.icmpNo X74.here hx rfl (hb hby d9_80) rfl (teq hlo).2 ?_
        show Steps p.tables e below (T74.setTop (mkF m 83 #[.val (.ref a1), .val (.int p2), .val (.int (own_wd p2))] [])) _
        refine XS.aloadN X74.here hx rfl (hb hby d9_83) rfl rfl ?_
        show Steps p.tables e below (T74.setTop (mkF m 84 #[.val (.ref a1), .val (.int p2), .val (.int (own_wd p2))] [(.ref a1)])) _
        refine XS.aloadN X74.here hx rfl (hb hby d9_84) rfl rfl ?_
        show Steps p.tables e below (T74.setTop (mkF m 85 #[.val (.ref a1), .val (.int p2), .val (.int (own_wd p2))] [(.ref a1), (.ref a1)])) _
        refine XS.iloadN X74.here hx rfl (hb hby d9_85) rfl ?_
        show Steps p.tables e below (T74.setTop (mkF m 86 #[.val (.ref a1), .val (.int p2), .val (.int (own_wd p2))] [(.int p2), (.ref a1), (.ref a1)])) _
        refine XS.i2l X74.here hx rfl (hb hby d9_86) rfl ?_
        exact k)
    obtain ⟨cq78, q78, q78'⟩ := Ef58.cell
    obtain ⟨_, _, ⟨T78, L78, k78, n78⟩, -, X78, ⟨Lc78, hQ78, l78, y78, z78⟩, st78⟩ := X74.privateBack hx (y := (⟨"com/example/twinbase/twinbase/CellSpace", "firstFree", "(J)J"⟩ : MethodName)) hown (mvT hZ (hw _ (List.mem_of_getElem? (i := 93) rfl))) (mvT hZ (hw _ (List.mem_of_getElem? (i := 94) rfl))) (own_selfsel hZ (hw _ (List.mem_of_getElem? (i := 1) rfl)) (hw _ (List.mem_of_getElem? (i := 95) rfl)) (hw _ (List.mem_of_getElem? (i := 94) rfl)) (by decide)) (Cond.privateMethod_at (mvP hZ (hw _ (List.mem_of_getElem? (i := 95) rfl)) (args := #[]))) (mvT hZ (hw _ (List.mem_of_getElem? (i := 96) rfl))) (by decide) (backOf (W := 1) (rm14 l Z a0 hw [] a1 (p2.toInt64) cU _ (fun i => if i = cn / 64 then u i ||| own_sh p2 else u i) cn h57 n0 Z57 Ff61 V76 hpL (by omega) hwU (by rw [hpI, if_pos rfl]; exact hff hlo)) hZ (hw _ (List.mem_of_getElem? (i := 96) rfl)) (hw _ (List.mem_of_getElem? (i := 2) rfl)) (by decide) (by decide)) (g := (mkF m 87 #[.val (.ref a1), .val (.int p2), .val (.int (own_wd p2))] [(.long (p2.toInt64)), (.ref a1), (.ref a1)])) rfl (by rw [hml]; rfl) (Steps.refl _) (a := a1) (by rw [e74]; exact q78) q78' (argsL := [(.long (p2.toInt64))]) (rest := [(.ref a1)]) (lenOf pd_10 rfl) rfl (by show 2 * 0 + _ ≤ _; exact Nat.le_of_eq rfl) (hb hby d9_87) (fun _ _ => ⟨rfl, e74, (by decide : 3 + 0 ≤ _), (by decide : 1041 + 0 ≤ _)⟩)
    dsimp only [Pt.U, Pt.locs, Pt.cells, Pt.slots] at X78 l78 y78 z78 st78 hQ78
    subst l78 y78 z78
    obtain ⟨rfl, N78q, Qe78⟩ := hQ78
    have N78 := Fr.app N57 N78q
    have ac79 : ∀ t, Steps p.tables e below (T78.setTop (mkF m 90 #[.val (.ref a1), .val (.int p2), .val (.int (own_wd p2))] [(.long (own_ffv (own_wdL (p2.toInt64)) (own_free ((fun i => if i = cn / 64 then u i ||| own_sh p2 else u i) (cn / 64)) (p2.toInt64).toInt32))), (.ref a1)])) t → Steps p.tables e below (s₁.setTop (entryFrame m #[(.ref a1), (.int p2)] 3)) t := fun t k => ac77 t (st78.trans k)
    have ac80 : ∀ t, Steps p.tables e below (T78.setTop (mkF m 91 #[.val (.ref a1), .val (.int p2), .val (.int (own_wd p2))] [(.int ((own_ffv (own_wdL (p2.toInt64)) (own_free ((fun i => if i = cn / 64 then u i ||| own_sh p2 else u i) (cn / 64)) (p2.toInt64).toInt32)).toInt32)), (.ref a1)])) t → Steps p.tables e below (s₁.setTop (entryFrame m #[(.ref a1), (.int p2)] 3)) t := fun t k => ac79 t (by
        show Steps p.tables e below (T78.setTop (mkF m 90 #[.val (.ref a1), .val (.int p2), .val (.int (own_wd p2))] [(.long (own_ffv (own_wdL (p2.toInt64)) (own_free ((fun i => if i = cn / 64 then u i ||| own_sh p2 else u i) (cn / 64)) (p2.toInt64).toInt32))), (.ref a1)])) _
        refine XS.l2i X78.here hx rfl (hb hby d9_90) rfl ?_
        exact k)
    obtain ⟨T81, h81, X81, e81, W81, st81⟩ := putF X78 hx hZ hown (host := "") (Or.inl (hw _ (List.mem_of_getElem? (i := 73) rfl))) Via.refl Qe78 Ff59 Ef58 (Or.inl (hw _ (List.mem_of_getElem? (i := 74) rfl))) (hw _ (List.mem_of_getElem? (i := 1) rfl)) (ty := .int) (by decide) rfl rfl (g := (mkF m 91 #[.val (.ref a1), .val (.int p2), .val (.int (own_wd p2))] [(.int ((own_ffv (own_wdL (p2.toInt64)) (own_free ((fun i => if i = cn / 64 then u i ||| own_sh p2 else u i) (cn / 64)) (p2.toInt64).toInt32)).toInt32)), (.ref a1)])) rfl rfl (hb hby d9_91)
    have Fw81 := Ff59.same W81
    have Ef82 := Ef58.wr W81
    have Ff83 := Ff60.other W81 (Or.inr (slot_ne (Or.inl (hw _ (List.mem_of_getElem? (i := 11) rfl))) (Or.inl (hw _ (List.mem_of_getElem? (i := 74) rfl))) (by decide) (t := (.array .long)) (t' := .int) (by decide) (by decide)))
    have Ff84 := Ff61.other W81 (Or.inr (slot_ne (Or.inl (hw _ (List.mem_of_getElem? (i := 13) rfl))) (Or.inl (hw _ (List.mem_of_getElem? (i := 74) rfl))) (by decide) (t := (.array .long)) (t' := .int) (by decide) (by decide)))
    have Ff85 := Ff62.other W81 (Or.inr (slot_ne (Or.inl (hw _ (List.mem_of_getElem? (i := 15) rfl))) (Or.inl (hw _ (List.mem_of_getElem? (i := 74) rfl))) (by decide) (t := (.array .long)) (t' := .int) (by decide) (by decide)))
    have Ff86 := Ff63.other W81 (Or.inr (slot_ne (Or.inr (hw _ (List.mem_of_getElem? (i := 18) rfl))) (Or.inl (hw _ (List.mem_of_getElem? (i := 74) rfl))) (by decide) (t := (.array .int)) (t' := .int) (by decide) (by decide)))
    have Vf87 := Vf64.other W81 (Ne.symm ne_a1_cC)
    have Vf88 := Vf65.other W81 (Ne.symm ne_a1_cF)
    have Vf89 := Vf66.other W81 (Ne.symm ne_a1_bR)
    have Ef90 := Ef67.wr W81
    have Ef91 := Ef68.wr W81
    have Ef92 := Ef69.wr W81
    have Vf93 := V76.other W81 (Ne.symm ne_a1_cU)
    have Ff94 := Fw57.other W81 (Or.inr (slot_ne (Or.inl (hw _ (List.mem_of_getElem? (i := 69) rfl))) (Or.inl (hw _ (List.mem_of_getElem? (i := 74) rfl))) (by decide) (t := .int) (t' := .int) (by decide) (by decide)))
    have N81 := Fr.snoc X81 N78 g_a1
    have Z81 : n0 ≤ h81.size := Nat.le_trans Z57 (Keep.of_wr W81).1
    have Kp95 : Keep h0 h81 [a1, bU] := Kp71.wr W81 (Or.inl (List.mem_of_getElem? (i := 0) rfl))
    have ac96 : ∀ t, Steps p.tables e below (T81.setTop (mkF m 94 #[.val (.ref a1), .val (.int p2), .val (.int (own_wd p2))] [])) t → Steps p.tables e below (s₁.setTop (entryFrame m #[(.ref a1), (.int p2)] 3)) t := fun t k => ac80 t (st81 t k)
    have Flw : Fld Z h81 a1 "com/example/twinbase/twinbase/CellSpace" "lowestFree" "I" (.int (own_low p2 low ((u (cn / 64)) ||| (own_sh p2)))) := by rw [(show own_low p2 low ((u (cn / 64)) ||| (own_sh p2)) = (own_ffv (own_wdL (p2.toInt64)) (own_free ((fun i => if i = cn / 64 then u i ||| own_sh p2 else u i) (cn / 64)) (p2.toInt64).toInt32)).toInt32 by rw [own_low_t hlo]; dsimp only; rw [if_pos rfl])]; exact Fw81
    obtain ⟨fs, hr, hrun, hended, hW, hsame⟩ := X81.leave (v := none) (fun _ => rfl) (BodyLoose.notSynchronized Bd)
    refine ⟨_, _, ac96 _ ?_, hrun, hended, _, _, rfl, ?_, ⟨_, rfl⟩, hW, hsame.mono (by decide) (by decide)⟩
    · show Steps p.tables e below (T81.setTop (mkF m 94 #[.val (.ref a1), .val (.int p2), .val (.int (own_wd p2))] [])) _
      exact X81.returnOut hx Bd.returns (hb hby d9_94) hr
    · show Q9 Z a1 p2 low sz bC bU bF bR nC fC u ff r cn frv h0 n0 _ T81.heap _
      rw [e81]
      exact ⟨cC, cU, cF, gC, gF, ln, _, rfl, N81, Kp95, hj1, hj2, hj3, ⟨Ef82, Ff83, Ff84, Ff85, Ff86, Flw, Ff94, Vf87, Vf93, Vf88, Vf89, Ef90, Ef91, Ef92, ne_a1_cC, ne_a1_cU, ne_a1_cF, ne_a1_bR, ne_cC_cU, ne_cC_cF, ne_cC_bR, ne_cU_cF, ne_cU_bR, ne_cF_bR, g_cC, g_cU, g_cF, g_bR⟩⟩
  ·
    have Flw : Fld Z h57 a1 "com/example/twinbase/twinbase/CellSpace" "lowestFree" "I" (.int (own_low p2 low ((u (cn / 64)) ||| (own_sh p2)))) := by rw [(own_low_f hlo)]; exact Ff59
    have ac97 : ∀ t, Steps p.tables e below (T74.setTop (mkF m 94 #[.val (.ref a1), .val (.int p2), .val (.int (own_wd p2))] [])) t → Steps p.tables e below (s₁.setTop (entryFrame m #[(.ref a1), (.int p2)] 3)) t := fun t k => ac75 t (by
        show Steps p.tables e below (T74.setTop (mkF m 80 #[.val (.ref a1), .val (.int p2), .val (.int (own_wd p2))] [(.int low), (.int p2)])) _
        refine XS.icmpYes X74.here hx rfl (pc0 := 80) (pc' := 94) rfl (hb hby d9_80) rfl (feq hlo).2 (by decide) (by decide) ?_
        exact k)
    obtain ⟨fs, hr, hrun, hended, hW, hsame⟩ := X74.leave (v := none) (fun _ => rfl) (BodyLoose.notSynchronized Bd)
    refine ⟨_, _, ac97 _ ?_, hrun, hended, _, _, rfl, ?_, ⟨_, rfl⟩, hW, hsame.mono (by decide) (by decide)⟩
    · show Steps p.tables e below (T74.setTop (mkF m 94 #[.val (.ref a1), .val (.int p2), .val (.int (own_wd p2))] [])) _
      exact X74.returnOut hx Bd.returns (hb hby d9_94) hr
    · show Q9 Z a1 p2 low sz bC bU bF bR nC fC u ff r cn frv h0 n0 _ T74.heap _
      rw [e74]
      exact ⟨cC, cU, cF, gC, gF, ln, _, rfl, N57, Kp71, hj1, hj2, hj3, ⟨Ef58, Ff60, Ff61, Ff62, Ff63, Flw, Fw57, Vf64, V76, Vf65, Vf66, Ef67, Ef68, Ef69, ne_a1_cC, ne_a1_cU, ne_a1_cF, ne_a1_bR, ne_cC_cU, ne_cC_cF, ne_cC_bR, ne_cU_cF, ne_cU_bR, ne_cF_bR, g_cC, g_cU, g_cF, g_bR⟩⟩
theorem ef_rm12 (m : MethodId) (x0 : Addr) (x1 : Int64) : entryFrame m #[(.ref x0), (.long x1)] 3 = mkF m 0 #[.val (.ref x0), .val (.long x1), .second] [] := by first | (simp [entryFrame, mkF, argsToLocals, Value.category]; done) | rfl
def Q12 (Z : State) (a1 : Addr) (q2 : Int64) (low : Int32) (sz : Int32) (bC : Addr) (bU : Addr) (bF : Addr) (bR : Addr) (nC : Nat) (fC : Nat → Value) (u : Nat → Int64) (ff : Nat → Int64) (r : Nat → Int32) (h0 : Heap) (n0 : Nat) (v : Option Value) (h : Heap) (L : List Loc) : Prop := v = some (.int (own_fr q2 nC u)) ∧ Fr n0 L ∧ h = h0
set_option maxRecDepth 65536 in
set_option maxHeartbeats 40000000 in
theorem rm12 (l : Launch) (Z : State) (a0 : Array Value) (hw : ∀ d ∈ tables_1, d.before a0 Z = true) (ws : List Jvm.Cond) (a1 : Addr) (q2 : Int64) (low : Int32) (sz : Int32) (bC : Addr) (bU : Addr) (bF : Addr) (bR : Addr) (nC : Nat) (fC : Nat → Value) (u : Nat → Int64) (ff : Nat → Int64) (r : Nat → Int32) (h0 : Heap) (n0 : Nat) (Z0 : n0 ≤ h0.size) (HB : own_C Z h0 n0 a1 low sz bC bU bF bR nC ((nC + 63) / 64) (((nC + 63) / 64 + 63) / 64) fC u ff r) :
    MetFree l (⟨"com/example/twinbase/twinbase/CellSpace", "isFree", "(J)Z"⟩ : MethodName) (head1 (Jvm.Cond.code (⟨"com/example/twinbase/twinbase/CellSpace", "isFree", "(J)Z"⟩ : MethodName) prog_2_method_8_code 3 (some .boolean) :: ws) ({ frames := 0, cells := 0, slots := 0, locals := 0 } : Room)) (fun a U => a = #[(.ref a1), (.long q2)] ∧ Z.Warmed39 U.vm ∧ U.heap = h0) (fun _ _ _ _ _ => True) (fun _ U o U' => ∃ v L, o = .returned v ∧ Q12 Z a1 q2 low sz bC bU bF bR nC fC u ff r h0 n0 v U'.heap L ∧ FrameEnd U o U' L ({ frames := 0, cells := 0, slots := 0, locals := 0 } : Room).cells ({ frames := 0, cells := 0, slots := 0, locals := 0 } : Room).slots) := by
  refine MetFree.of_bodySF (plainFor_of_name pn_12) hisR ?_
  intro p e s m args below meth c s₁ Bd hml0 hP hK
  obtain ⟨rfl, hZ, hh⟩ := hP
  have hx := Bd.exec
  have hby := Bd.bytes
  have hml : c.maxLocals = 3 := hml0
  have hown : s.vm.findClass "com/example/twinbase/twinbase/CellSpace" = some m.cls := findClass_of_methodNamed Bd.named
  have hnm := (name_of_methodNamed Bd.named Bd.method).1
  have X0 : Stand p l e ({ frames := 0, cells := 0, slots := 0, locals := 0 } : Room) s m #[(.ref a1), (.long q2)] below meth c s₁ [] 0 0 := Stand.of_body Bd
  have e0 : s₁.heap = h0 := by rw [← hh, Bd.state]; rfl
  have N0 := Fr.nil n0
  have a0s : ∀ t, Steps p.tables e below (s₁.setTop (mkF m 0 #[.val (.ref a1), .val (.long q2), .second] [])) t → Steps p.tables e below (s₁.setTop (entryFrame m #[(.ref a1), (.long q2)] 3)) t := fun t k => castTop (ef_rm12 m a1 q2) k
  obtain ⟨E1, F_0, F_1, F_2, F_3, F_lo, F_sz, V_0, V_1, V_2, V_3, E_C, E_U, E_F, ne_a1_bC, ne_a1_bU, ne_a1_bF, ne_a1_bR, ne_bC_bU, ne_bC_bF, ne_bC_bR, ne_bU_bF, ne_bU_bR, ne_bF_bR, g_bC, g_bU, g_bF, g_bR⟩ := id HB
  have ac1 : ∀ t, Steps p.tables e below (s₁.setTop (mkF m 3 #[.val (.ref a1), .val (.long q2), .second] [(.int (lcmpW q2 (0 : Int64)))])) t → Steps p.tables e below (s₁.setTop (entryFrame m #[(.ref a1), (.long q2)] 3)) t := fun t k => a0s t (by
      show Steps p.tables e below (s₁.setTop (mkF m 0 #[.val (.ref a1), .val (.long q2), .second] [])) _
      refine XS.lloadN X0.here hx rfl (hb hby d12_0) rfl ?_
      show Steps p.tables e below (s₁.setTop (mkF m 1 #[.val (.ref a1), .val (.long q2), .second] [(.long q2)])) _
      refine XS.lconst X0.here hx rfl (hb hby d12_1) ?_
      show Steps p.tables e below (s₁.setTop (mkF m 2 #[.val (.ref a1), .val (.long q2), .second] [(.long (0 : Int64)), (.long q2)])) _
      refine XS.lcmp X0.here hx rfl (hb hby d12_2) rfl ?_
      exact k)
  by_cases h1 : q2 < (0 : Int64)
  ·
    have ac2 : ∀ t, Steps p.tables e below (s₁.setTop (mkF m 15 #[.val (.ref a1), .val (.long q2), .second] [(.int (0 : Int32))])) t → Steps p.tables e below (s₁.setTop (entryFrame m #[(.ref a1), (.long q2)] 3)) t := fun t k => ac1 t (by
        show Steps p.tables e below (s₁.setTop (mkF m 3 #[.val (.ref a1), .val (.long q2), .second] [(.int (lcmpW q2 (0 : Int64)))])) _
        refine XS.ifYes X0.here hx rfl (pc0 := 3) (pc' := 14) rfl (hb hby d12_3) rfl ((if0 _ _).trans (tlt ((lw_lt _ _).mpr h1)).1) (by decide) (by decide) ?_
        show Steps p.tables e below (s₁.setTop (mkF m 14 #[.val (.ref a1), .val (.long q2), .second] [])) _
        refine XS.iconst X0.here hx rfl (hb hby d12_14) ?_
        exact k)
    obtain ⟨fs, hr, hrun, hended, hW, hsame⟩ := X0.leave (v := some (.int (0 : Int32))) (fun h => by rw [Bd.returns] at h; cases h) (BodyLoose.notSynchronized Bd)
    refine ⟨_, _, ac2 _ ?_, hrun, hended, _, _, rfl, ?_, ⟨_, rfl⟩, hW, hsame.mono (by decide) (by decide)⟩
    · show Steps p.tables e below (s₁.setTop (mkF m 15 #[.val (.ref a1), .val (.long q2), .second] [(.int (0 : Int32))])) _
      exact retN X0 hx (t := .boolean) Bd.returns (by simp) (hb hby d12_15) hr
    · show Q12 Z a1 q2 low sz bC bU bF bR nC fC u ff r h0 n0 _ s₁.heap _
      rw [e0]
      exact ⟨(congrArg (fun z => some (Value.int z)) (own_fr_1 h1)).symm, N0, rfl⟩
  ·
    have ac3 : ∀ t, Steps p.tables e below (s₁.setTop (mkF m 11 #[.val (.ref a1), .val (.long q2), .second] [(.int (lcmpW q2 (2147483646 : Int64)))])) t → Steps p.tables e below (s₁.setTop (entryFrame m #[(.ref a1), (.long q2)] 3)) t := fun t k => ac1 t (by
        show Steps p.tables e below (s₁.setTop (mkF m 3 #[.val (.ref a1), .val (.long q2), .second] [(.int (lcmpW q2 (0 : Int64)))])) _
        refine XS.ifNo X0.here hx rfl (hb hby d12_3) rfl ((if0 _ _).trans (flt (mt (lw_lt _ _).mp h1)).1) ?_
        show Steps p.tables e below (s₁.setTop (mkF m 6 #[.val (.ref a1), .val (.long q2), .second] [])) _
        refine XS.lloadN X0.here hx rfl (hb hby d12_6) rfl ?_
        show Steps p.tables e below (s₁.setTop (mkF m 7 #[.val (.ref a1), .val (.long q2), .second] [(.long q2)])) _
        refine X0.ldc2Long hx hown (mvT hZ (hw _ (List.mem_of_getElem? (i := 24) rfl))) (g := (mkF m 7 #[.val (.ref a1), .val (.long q2), .second] [(.long q2)])) rfl (hb hby d12_7) _ ?_
        show Steps p.tables e below (s₁.setTop (mkF m 10 #[.val (.ref a1), .val (.long q2), .second] [(.long (2147483646 : Int64)), (.long q2)])) _
        refine XS.lcmp X0.here hx rfl (hb hby d12_10) rfl ?_
        exact k)
    by_cases h2 : q2 < (2147483646 : Int64)
    ·
      have ac4 : ∀ t, Steps p.tables e below (s₁.setTop (mkF m 18 #[.val (.ref a1), .val (.long q2), .second] [(.ref a1), (.long q2)])) t → Steps p.tables e below (s₁.setTop (entryFrame m #[(.ref a1), (.long q2)] 3)) t := fun t k => ac3 t (by
          show Steps p.tables e below (s₁.setTop (mkF m 11 #[.val (.ref a1), .val (.long q2), .second] [(.int (lcmpW q2 (2147483646 : Int64)))])) _
          refine XS.ifYes X0.here hx rfl (pc0 := 11) (pc' := 16) rfl (hb hby d12_11) rfl ((if0 _ _).trans (tlt ((lw_lt _ _).mpr h2)).1) (by decide) (by decide) ?_
          show Steps p.tables e below (s₁.setTop (mkF m 16 #[.val (.ref a1), .val (.long q2), .second] [])) _
          refine XS.lloadN X0.here hx rfl (hb hby d12_16) rfl ?_
          show Steps p.tables e below (s₁.setTop (mkF m 17 #[.val (.ref a1), .val (.long q2), .second] [(.long q2)])) _
          refine XS.aloadN X0.here hx rfl (hb hby d12_17) rfl rfl ?_
          exact k)
      obtain ⟨T5, X5, e5, st5⟩ := getF X0 hx hZ hown (host := "") (Or.inl (hw _ (List.mem_of_getElem? (i := 10) rfl))) Via.refl e0 F_0 (g := (mkF m 18 #[.val (.ref a1), .val (.long q2), .second] [(.ref a1), (.long q2)])) rfl rfl (hb hby d12_18)
      have ac6 : ∀ t, Steps p.tables e below (T5.setTop (mkF m 21 #[.val (.ref a1), .val (.long q2), .second] [(.ref bC), (.long q2)])) t → Steps p.tables e below (s₁.setTop (entryFrame m #[(.ref a1), (.long q2)] 3)) t := fun t k => ac4 t (st5 t k)
      obtain ⟨cl7, Ac7, hl7, hb7⟩ := V_0.len
      have hnC := own_ofNat hb7
      have ac8 : ∀ t, Steps p.tables e below (T5.setTop (mkF m 24 #[.val (.ref a1), .val (.long q2), .second] [(.int (lcmpW q2 ((Int32.ofNat nC).toInt64)))])) t → Steps p.tables e below (s₁.setTop (entryFrame m #[(.ref a1), (.long q2)] 3)) t := fun t k => ac6 t (by
          show Steps p.tables e below (T5.setTop (mkF m 21 #[.val (.ref a1), .val (.long q2), .second] [(.ref bC), (.long q2)])) _
          refine X5.arraylength hx (by rw [e5]; exact Ac7.1) (State.isArrayOf_alike hZ.alike Ac7.2.1) (g := (mkF m 21 #[.val (.ref a1), .val (.long q2), .second] [(.ref bC), (.long q2)])) rfl rfl (hb hby d12_21) _ ?_
          rw [hl7]
          show Steps p.tables e below (T5.setTop (mkF m 22 #[.val (.ref a1), .val (.long q2), .second] [(.int (Int32.ofNat nC)), (.long q2)])) _
          refine XS.i2l X5.here hx rfl (hb hby d12_22) rfl ?_
          show Steps p.tables e below (T5.setTop (mkF m 23 #[.val (.ref a1), .val (.long q2), .second] [(.long ((Int32.ofNat nC).toInt64)), (.long q2)])) _
          refine XS.lcmp X5.here hx rfl (hb hby d12_23) rfl ?_
          exact k)
      by_cases h3 : q2 < ((Int32.ofNat nC).toInt64)
      ·
        have hqn := own_qn h1
        have h3i := Int64.lt_iff_toInt_lt.mp h3
        rw [c_i2l, hnC] at h3i
        have hq6 := own_wdL_v hqn (by omega)
        have ac9 : ∀ t, Steps p.tables e below (T5.setTop (mkF m 28 #[.val (.ref a1), .val (.long q2), .second] [(.ref a1)])) t → Steps p.tables e below (s₁.setTop (entryFrame m #[(.ref a1), (.long q2)] 3)) t := fun t k => ac8 t (by
            show Steps p.tables e below (T5.setTop (mkF m 24 #[.val (.ref a1), .val (.long q2), .second] [(.int (lcmpW q2 ((Int32.ofNat nC).toInt64)))])) _
            refine XS.ifNo X5.here hx rfl (hb hby d12_24) rfl ((if0 _ _).trans (tlt ((lw_lt _ _).mpr h3)).2.1) ?_
            show Steps p.tables e below (T5.setTop (mkF m 27 #[.val (.ref a1), .val (.long q2), .second] [])) _
            refine XS.aloadN X5.here hx rfl (hb hby d12_27) rfl rfl ?_
            exact k)
        obtain ⟨T10, X10, e10, st10⟩ := getF X5 hx hZ hown (host := "") (Or.inl (hw _ (List.mem_of_getElem? (i := 12) rfl))) Via.refl e5 F_1 (g := (mkF m 28 #[.val (.ref a1), .val (.long q2), .second] [(.ref a1)])) rfl rfl (hb hby d12_28)
        have ac11 : ∀ t, Steps p.tables e below (T10.setTop (mkF m 31 #[.val (.ref a1), .val (.long q2), .second] [(.ref bU)])) t → Steps p.tables e below (s₁.setTop (entryFrame m #[(.ref a1), (.long q2)] 3)) t := fun t k => ac9 t (st10 t k)
        have ac12 : ∀ t, Steps p.tables e below (T10.setTop (mkF m 36 #[.val (.ref a1), .val (.long q2), .second] [(.int (((q2.toUInt64 >>> ((6 : Int32) &&& 0x3f).toInt64.toUInt64).toInt64).toInt32)), (.ref bU)])) t → Steps p.tables e below (s₁.setTop (entryFrame m #[(.ref a1), (.long q2)] 3)) t := fun t k => ac11 t (by
            show Steps p.tables e below (T10.setTop (mkF m 31 #[.val (.ref a1), .val (.long q2), .second] [(.ref bU)])) _
            refine XS.lloadN X10.here hx rfl (hb hby d12_31) rfl ?_
            show Steps p.tables e below (T10.setTop (mkF m 32 #[.val (.ref a1), .val (.long q2), .second] [(.long q2), (.ref bU)])) _
            refine XS.bipush X10.here hx rfl (hb hby d12_32) ?_
            show Steps p.tables e below (T10.setTop (mkF m 34 #[.val (.ref a1), .val (.long q2), .second] [(.int (6 : Int32)), (.long q2), (.ref bU)])) _
            refine XS.lushr X10.here hx rfl (hb hby d12_34) rfl ?_
            show Steps p.tables e below (T10.setTop (mkF m 35 #[.val (.ref a1), .val (.long q2), .second] [(.long ((q2.toUInt64 >>> ((6 : Int32) &&& 0x3f).toInt64.toUInt64).toInt64)), (.ref bU)])) _
            refine XS.l2i X10.here hx rfl (hb hby d12_35) rfl ?_
            exact k)
        have ac13 : ∀ t, Steps p.tables e below (T10.setTop (mkF m 36 #[.val (.ref a1), .val (.long q2), .second] [(.int (own_wdL q2)), (.ref bU)])) t → Steps p.tables e below (s₁.setTop (entryFrame m #[(.ref a1), (.long q2)] 3)) t := ac12
        obtain ⟨cl14, Ac14, hin14, hat14⟩ := V_1.at (j := (own_wdL q2)) (i := (q2.toInt.toNat / 64)) hq6 (by omega)
        have ac15 : ∀ t, Steps p.tables e below (T10.setTop (mkF m 41 #[.val (.ref a1), .val (.long q2), .second] [(.long ((1 : Int64) <<< ((q2.toInt32) &&& 0x3f).toInt64)), (.long (u (q2.toInt.toNat / 64)))])) t → Steps p.tables e below (s₁.setTop (entryFrame m #[(.ref a1), (.long q2)] 3)) t := fun t k => ac13 t (by
            show Steps p.tables e below (T10.setTop (mkF m 36 #[.val (.ref a1), .val (.long q2), .second] [(.int (own_wdL q2)), (.ref bU)])) _
            refine X10.laload hx (j := (own_wdL q2)) (v := (.long (u (q2.toInt.toNat / 64)))) (by rw [e10]; exact Ac14.1) (State.isArrayOf_alike hZ.alike Ac14.2.1) Ac14.2.2 hin14 (hat14.trans (congrArg some rfl)) (g := (mkF m 36 #[.val (.ref a1), .val (.long q2), .second] [(.int (own_wdL q2)), (.ref bU)])) rfl rfl (hb hby d12_36) _ ?_
            show Steps p.tables e below (T10.setTop (mkF m 37 #[.val (.ref a1), .val (.long q2), .second] [(.long (u (q2.toInt.toNat / 64)))])) _
            refine XS.lconst X10.here hx rfl (hb hby d12_37) ?_
            show Steps p.tables e below (T10.setTop (mkF m 38 #[.val (.ref a1), .val (.long q2), .second] [(.long (1 : Int64)), (.long (u (q2.toInt.toNat / 64)))])) _
            refine XS.lloadN X10.here hx rfl (hb hby d12_38) rfl ?_
            show Steps p.tables e below (T10.setTop (mkF m 39 #[.val (.ref a1), .val (.long q2), .second] [(.long q2), (.long (1 : Int64)), (.long (u (q2.toInt.toNat / 64)))])) _
            refine XS.l2i X10.here hx rfl (hb hby d12_39) rfl ?_
            show Steps p.tables e below (T10.setTop (mkF m 40 #[.val (.ref a1), .val (.long q2), .second] [(.int (q2.toInt32)), (.long (1 : Int64)), (.long (u (q2.toInt.toNat / 64)))])) _
            refine XS.lshl X10.here hx rfl (hb hby d12_40) rfl ?_
            exact k)
        have ac16 : ∀ t, Steps p.tables e below (T10.setTop (mkF m 41 #[.val (.ref a1), .val (.long q2), .second] [(.long (own_sh q2.toInt32)), (.long (u (q2.toInt.toNat / 64)))])) t → Steps p.tables e below (s₁.setTop (entryFrame m #[(.ref a1), (.long q2)] 3)) t := ac15
        have ac17 : ∀ t, Steps p.tables e below (T10.setTop (mkF m 44 #[.val (.ref a1), .val (.long q2), .second] [(.int (lcmpW ((u (q2.toInt.toNat / 64)) &&& (own_sh q2.toInt32)) (0 : Int64)))])) t → Steps p.tables e below (s₁.setTop (entryFrame m #[(.ref a1), (.long q2)] 3)) t := fun t k => ac16 t (by
            show Steps p.tables e below (T10.setTop (mkF m 41 #[.val (.ref a1), .val (.long q2), .second] [(.long (own_sh q2.toInt32)), (.long (u (q2.toInt.toNat / 64)))])) _
            refine XS.land X10.here hx rfl (hb hby d12_41) rfl ?_
            show Steps p.tables e below (T10.setTop (mkF m 42 #[.val (.ref a1), .val (.long q2), .second] [(.long ((u (q2.toInt.toNat / 64)) &&& (own_sh q2.toInt32)))])) _
            refine XS.lconst X10.here hx rfl (hb hby d12_42) ?_
            show Steps p.tables e below (T10.setTop (mkF m 43 #[.val (.ref a1), .val (.long q2), .second] [(.long (0 : Int64)), (.long ((u (q2.toInt.toNat / 64)) &&& (own_sh q2.toInt32)))])) _
            refine XS.lcmp X10.here hx rfl (hb hby d12_43) rfl ?_
            exact k)
        by_cases h4 : ((u (q2.toInt.toNat / 64)) &&& (own_sh q2.toInt32)) = (0 : Int64)
        ·
          have ac18 : ∀ t, Steps p.tables e below (T10.setTop (mkF m 52 #[.val (.ref a1), .val (.long q2), .second] [(.int (1 : Int32))])) t → Steps p.tables e below (s₁.setTop (entryFrame m #[(.ref a1), (.long q2)] 3)) t := fun t k => ac17 t (by
              show Steps p.tables e below (T10.setTop (mkF m 44 #[.val (.ref a1), .val (.long q2), .second] [(.int (lcmpW ((u (q2.toInt.toNat / 64)) &&& (own_sh q2.toInt32)) (0 : Int64)))])) _
              refine XS.ifNo X10.here hx rfl (hb hby d12_44) rfl ((if0 _ _).trans (teq ((lw_eq _ _).mpr h4)).2) ?_
              show Steps p.tables e below (T10.setTop (mkF m 47 #[.val (.ref a1), .val (.long q2), .second] [])) _
              refine XS.iconst X10.here hx rfl (hb hby d12_47) ?_
              show Steps p.tables e below (T10.setTop (mkF m 48 #[.val (.ref a1), .val (.long q2), .second] [(.int (1 : Int32))])) _
              refine XS.goto X10.here hx rfl (pc0 := 48) (pc' := 52) rfl (hb hby d12_48) (by decide) (by decide) ?_
              exact k)
          obtain ⟨fs, hr, hrun, hended, hW, hsame⟩ := X10.leave (v := some (.int (1 : Int32))) (fun h => by rw [Bd.returns] at h; cases h) (BodyLoose.notSynchronized Bd)
          refine ⟨_, _, ac18 _ ?_, hrun, hended, _, _, rfl, ?_, ⟨_, rfl⟩, hW, hsame.mono (by decide) (by decide)⟩
          · show Steps p.tables e below (T10.setTop (mkF m 52 #[.val (.ref a1), .val (.long q2), .second] [(.int (1 : Int32))])) _
            exact retN X10 hx (t := .boolean) Bd.returns (by simp) (hb hby d12_52) hr
          · show Q12 Z a1 q2 low sz bC bU bF bR nC fC u ff r h0 n0 _ T10.heap _
            rw [e10]
            exact ⟨(congrArg (fun z => some (Value.int z)) (own_fr_4 h1 h2 h3 h4)).symm, N0, rfl⟩
        ·
          have ac19 : ∀ t, Steps p.tables e below (T10.setTop (mkF m 52 #[.val (.ref a1), .val (.long q2), .second] [(.int (0 : Int32))])) t → Steps p.tables e below (s₁.setTop (entryFrame m #[(.ref a1), (.long q2)] 3)) t := fun t k => ac17 t (by
              show Steps p.tables e below (T10.setTop (mkF m 44 #[.val (.ref a1), .val (.long q2), .second] [(.int (lcmpW ((u (q2.toInt.toNat / 64)) &&& (own_sh q2.toInt32)) (0 : Int64)))])) _
              refine XS.ifYes X10.here hx rfl (pc0 := 44) (pc' := 51) rfl (hb hby d12_44) rfl ((if0 _ _).trans (feq (mt (lw_eq _ _).mp h4)).2) (by decide) (by decide) ?_
              show Steps p.tables e below (T10.setTop (mkF m 51 #[.val (.ref a1), .val (.long q2), .second] [])) _
              refine XS.iconst X10.here hx rfl (hb hby d12_51) ?_
              exact k)
          obtain ⟨fs, hr, hrun, hended, hW, hsame⟩ := X10.leave (v := some (.int (0 : Int32))) (fun h => by rw [Bd.returns] at h; cases h) (BodyLoose.notSynchronized Bd)
          refine ⟨_, _, ac19 _ ?_, hrun, hended, _, _, rfl, ?_, ⟨_, rfl⟩, hW, hsame.mono (by decide) (by decide)⟩
          · show Steps p.tables e below (T10.setTop (mkF m 52 #[.val (.ref a1), .val (.long q2), .second] [(.int (0 : Int32))])) _
            exact retN X10 hx (t := .boolean) Bd.returns (by simp) (hb hby d12_52) hr
          · show Q12 Z a1 q2 low sz bC bU bF bR nC fC u ff r h0 n0 _ T10.heap _
            rw [e10]
            exact ⟨(congrArg (fun z => some (Value.int z)) (own_fr_5 h1 h2 h3 h4)).symm, N0, rfl⟩
      ·
        have ac20 : ∀ t, Steps p.tables e below (T5.setTop (mkF m 52 #[.val (.ref a1), .val (.long q2), .second] [(.int (1 : Int32))])) t → Steps p.tables e below (s₁.setTop (entryFrame m #[(.ref a1), (.long q2)] 3)) t := fun t k => ac8 t (by
            show Steps p.tables e below (T5.setTop (mkF m 24 #[.val (.ref a1), .val (.long q2), .second] [(.int (lcmpW q2 ((Int32.ofNat nC).toInt64)))])) _
            refine XS.ifYes X5.here hx rfl (pc0 := 24) (pc' := 47) rfl (hb hby d12_24) rfl ((if0 _ _).trans (flt (mt (lw_lt _ _).mp h3)).2.1) (by decide) (by decide) ?_
            show Steps p.tables e below (T5.setTop (mkF m 47 #[.val (.ref a1), .val (.long q2), .second] [])) _
            refine XS.iconst X5.here hx rfl (hb hby d12_47) ?_
            show Steps p.tables e below (T5.setTop (mkF m 48 #[.val (.ref a1), .val (.long q2), .second] [(.int (1 : Int32))])) _
            refine XS.goto X5.here hx rfl (pc0 := 48) (pc' := 52) rfl (hb hby d12_48) (by decide) (by decide) ?_
            exact k)
        obtain ⟨fs, hr, hrun, hended, hW, hsame⟩ := X5.leave (v := some (.int (1 : Int32))) (fun h => by rw [Bd.returns] at h; cases h) (BodyLoose.notSynchronized Bd)
        refine ⟨_, _, ac20 _ ?_, hrun, hended, _, _, rfl, ?_, ⟨_, rfl⟩, hW, hsame.mono (by decide) (by decide)⟩
        · show Steps p.tables e below (T5.setTop (mkF m 52 #[.val (.ref a1), .val (.long q2), .second] [(.int (1 : Int32))])) _
          exact retN X5 hx (t := .boolean) Bd.returns (by simp) (hb hby d12_52) hr
        · show Q12 Z a1 q2 low sz bC bU bF bR nC fC u ff r h0 n0 _ T5.heap _
          rw [e5]
          exact ⟨(congrArg (fun z => some (Value.int z)) (own_fr_3 h1 h2 h3)).symm, N0, rfl⟩
    ·
      have ac21 : ∀ t, Steps p.tables e below (s₁.setTop (mkF m 15 #[.val (.ref a1), .val (.long q2), .second] [(.int (0 : Int32))])) t → Steps p.tables e below (s₁.setTop (entryFrame m #[(.ref a1), (.long q2)] 3)) t := fun t k => ac3 t (by
          show Steps p.tables e below (s₁.setTop (mkF m 11 #[.val (.ref a1), .val (.long q2), .second] [(.int (lcmpW q2 (2147483646 : Int64)))])) _
          refine XS.ifNo X0.here hx rfl (hb hby d12_11) rfl ((if0 _ _).trans (flt (mt (lw_lt _ _).mp h2)).1) ?_
          show Steps p.tables e below (s₁.setTop (mkF m 14 #[.val (.ref a1), .val (.long q2), .second] [])) _
          refine XS.iconst X0.here hx rfl (hb hby d12_14) ?_
          exact k)
      obtain ⟨fs, hr, hrun, hended, hW, hsame⟩ := X0.leave (v := some (.int (0 : Int32))) (fun h => by rw [Bd.returns] at h; cases h) (BodyLoose.notSynchronized Bd)
      refine ⟨_, _, ac21 _ ?_, hrun, hended, _, _, rfl, ?_, ⟨_, rfl⟩, hW, hsame.mono (by decide) (by decide)⟩
      · show Steps p.tables e below (s₁.setTop (mkF m 15 #[.val (.ref a1), .val (.long q2), .second] [(.int (0 : Int32))])) _
        exact retN X0 hx (t := .boolean) Bd.returns (by simp) (hb hby d12_15) hr
      · show Q12 Z a1 q2 low sz bC bU bF bR nC fC u ff r h0 n0 _ s₁.heap _
        rw [e0]
        exact ⟨(congrArg (fun z => some (Value.int z)) (own_fr_2 h1 h2)).symm, N0, rfl⟩
theorem ef_rm13 (m : MethodId) (x0 : Addr) (x1 : Int32) : entryFrame m #[(.ref x0), (.int x1)] 4 = mkF m 0 #[.val (.ref x0), .val (.int x1), .unset, .unset] [] := by first | (simp [entryFrame, mkF, argsToLocals, Value.category]; done) | rfl
def Q13 (Z : State) (a1 : Addr) (p2 : Int32) (low : Int32) (sz : Int32) (bC : Addr) (bU : Addr) (bF : Addr) (bR : Addr) (nC : Nat) (fC : Nat → Value) (u : Nat → Int64) (ff : Nat → Int64) (r : Nat → Int32) (cn : Nat) (frv : Int64) (h0 : Heap) (n0 : Nat) (v : Option Value) (h : Heap) (L : List Loc) : Prop := ∃ (fC' : Nat → Value) (ff' : Nat → Int64) (r' : Nat → Int32) (low' : Int32), v = none ∧ Fr n0 L ∧ Keep h0 h [a1, bC, bU, bF, bR] ∧ own_C Z h n0 a1 low' sz bC bU bF bR nC ((nC + 63) / 64) (((nC + 63) / 64 + 63) / 64) fC' (fun i => if i = cn / 64 then u i &&& (own_sh p2 ^^^ (-1)) else u i) ff' r'
set_option maxRecDepth 65536 in
set_option maxHeartbeats 40000000 in
theorem rm13 (l : Launch) (Z : State) (a0 : Array Value) (hw : ∀ d ∈ tables_1, d.before a0 Z = true) (ws : List Jvm.Cond) (a1 : Addr) (p2 : Int32) (low : Int32) (sz : Int32) (bC : Addr) (bU : Addr) (bF : Addr) (bR : Addr) (nC : Nat) (fC : Nat → Value) (u : Nat → Int64) (ff : Nat → Int64) (r : Nat → Int32) (cn : Nat) (frv : Int64) (h0 : Heap) (n0 : Nat) (Z0 : n0 ≤ h0.size) (HB : own_C Z h0 n0 a1 low sz bC bU bF bR nC ((nC + 63) / 64) (((nC + 63) / 64 + 63) / 64) fC u ff r) (hp : p2.toInt = cn) (h1 : cn < nC) (g_a1 : n0 ≤ a1) (Sf : Sta Z h0 "com/example/twinbase/twinbase/DoubleArray" "FREE" "J" (.long frv)) :
    MetFree l (⟨"com/example/twinbase/twinbase/CellSpace", "release", "(I)V"⟩ : MethodName) (head1 (Jvm.Cond.code (⟨"com/example/twinbase/twinbase/CellSpace", "release", "(I)V"⟩ : MethodName) prog_2_method_12_code 4 none :: ws) ({ frames := 1, cells := 0, slots := 0, locals := 20 } : Room)) (fun a U => a = #[(.ref a1), (.int p2)] ∧ Z.Warmed39 U.vm ∧ U.heap = h0) (fun _ _ _ _ _ => True) (fun _ U o U' => ∃ v L, o = .returned v ∧ Q13 Z a1 p2 low sz bC bU bF bR nC fC u ff r cn frv h0 n0 v U'.heap L ∧ FrameEnd U o U' L ({ frames := 1, cells := 0, slots := 0, locals := 20 } : Room).cells ({ frames := 1, cells := 0, slots := 0, locals := 20 } : Room).slots) := by
  refine MetFree.of_bodySF (plainFor_of_name pn_13) hisR ?_
  intro p e s m args below meth c s₁ Bd hml0 hP hK
  obtain ⟨rfl, hZ, hh⟩ := hP
  have hx := Bd.exec
  have hby := Bd.bytes
  have hml : c.maxLocals = 4 := hml0
  have hown : s.vm.findClass "com/example/twinbase/twinbase/CellSpace" = some m.cls := findClass_of_methodNamed Bd.named
  have hnm := (name_of_methodNamed Bd.named Bd.method).1
  have X0 : Stand p l e ({ frames := 1, cells := 0, slots := 0, locals := 20 } : Room) s m #[(.ref a1), (.int p2)] below meth c s₁ [] 0 0 := Stand.of_body Bd
  have e0 : s₁.heap = h0 := by rw [← hh, Bd.state]; rfl
  have N0 := Fr.nil n0
  have a0s : ∀ t, Steps p.tables e below (s₁.setTop (mkF m 0 #[.val (.ref a1), .val (.int p2), .unset, .unset] [])) t → Steps p.tables e below (s₁.setTop (entryFrame m #[(.ref a1), (.int p2)] 4)) t := fun t k => castTop (ef_rm13 m a1 p2) k
  have hcn : nC < 2147483648 := by obtain ⟨-, -, -, -, -, -, -, ⟨c_, q1, q2, q3, -⟩, -⟩ := id HB; exact q3
  obtain ⟨E1, F_0, F_1, F_2, F_3, F_lo, F_sz, V_0, V_1, V_2, V_3, E_C, E_U, E_F, ne_a1_bC, ne_a1_bU, ne_a1_bF, ne_a1_bR, ne_bC_bU, ne_bC_bF, ne_bC_bR, ne_bU_bF, ne_bU_bR, ne_bF_bR, g_bC, g_bU, g_bF, g_bR⟩ := id HB
  have ac1 : ∀ t, Steps p.tables e below (s₁.setTop (mkF m 1 #[.val (.ref a1), .val (.int p2), .unset, .unset] [(.ref a1)])) t → Steps p.tables e below (s₁.setTop (entryFrame m #[(.ref a1), (.int p2)] 4)) t := fun t k => a0s t (by
      show Steps p.tables e below (s₁.setTop (mkF m 0 #[.val (.ref a1), .val (.int p2), .unset, .unset] [])) _
      refine XS.aloadN X0.here hx rfl (hb hby d13_0) rfl rfl ?_
      exact k)
  obtain ⟨T2, X2, e2, st2⟩ := getF X0 hx hZ hown (host := "") (Or.inl (hw _ (List.mem_of_getElem? (i := 10) rfl))) Via.refl e0 F_0 (g := (mkF m 1 #[.val (.ref a1), .val (.int p2), .unset, .unset] [(.ref a1)])) rfl rfl (hb hby d13_1)
  have ac3 : ∀ t, Steps p.tables e below (T2.setTop (mkF m 4 #[.val (.ref a1), .val (.int p2), .unset, .unset] [(.ref bC)])) t → Steps p.tables e below (s₁.setTop (entryFrame m #[(.ref a1), (.int p2)] 4)) t := fun t k => ac1 t (st2 t k)
  have ac4 : ∀ t, Steps p.tables e below (T2.setTop (mkF m 5 #[.val (.ref a1), .val (.int p2), .unset, .unset] [(.int p2), (.ref bC)])) t → Steps p.tables e below (s₁.setTop (entryFrame m #[(.ref a1), (.int p2)] 4)) t := fun t k => ac3 t (by
      show Steps p.tables e below (T2.setTop (mkF m 4 #[.val (.ref a1), .val (.int p2), .unset, .unset] [(.ref bC)])) _
      refine XS.iloadN X2.here hx rfl (hb hby d13_4) rfl ?_
      exact k)
  obtain ⟨T5, X5, e5, st5⟩ := getS2 X2 hx hZ hown (host := "") (Or.inl (hw _ (List.mem_of_getElem? (i := 46) rfl))) Via.refl e2 Sf (g := (mkF m 5 #[.val (.ref a1), .val (.int p2), .unset, .unset] [(.int p2), (.ref bC)])) rfl (hb hby d13_5)
  have ac6 : ∀ t, Steps p.tables e below (T5.setTop (mkF m 8 #[.val (.ref a1), .val (.int p2), .unset, .unset] [(.long frv), (.int p2), (.ref bC)])) t → Steps p.tables e below (s₁.setTop (entryFrame m #[(.ref a1), (.int p2)] 4)) t := fun t k => ac4 t (st5 t k)
  obtain ⟨cl7, Ac7, hin7, -⟩ := V_0.at (j := p2) (i := cn) hp h1
  obtain ⟨T7, h7, X7, e7, W7, st7⟩ := stJ X5 hx hZ e5 Ac7 (j := p2) hin7 (g := (mkF m 8 #[.val (.ref a1), .val (.int p2), .unset, .unset] [(.long frv), (.int p2), (.ref bC)])) rfl rfl (hb hby d13_8)
  have V7 := V_0.set (i := cn) hp W7 rfl
  have Ef8 := E1.wr W7
  have Ff9 := F_lo.other W7 (Or.inl ne_a1_bC)
  have Ff10 := F_sz.other W7 (Or.inl ne_a1_bC)
  have Ff11 := F_0.other W7 (Or.inl ne_a1_bC)
  have Ff12 := F_1.other W7 (Or.inl ne_a1_bC)
  have Ff13 := F_2.other W7 (Or.inl ne_a1_bC)
  have Ff14 := F_3.other W7 (Or.inl ne_a1_bC)
  have Vf15 := V_1.other W7 (Ne.symm ne_bC_bU)
  have Vf16 := V_2.other W7 (Ne.symm ne_bC_bF)
  have Vf17 := V_3.other W7 (Ne.symm ne_bC_bR)
  have Ef18 := E_C.wr W7
  have Ef19 := E_U.wr W7
  have Ef20 := E_F.wr W7
  have N7 := Fr.snoc X7 N0 g_bC
  have Z7 : n0 ≤ h7.size := Nat.le_trans Z0 (Keep.of_wr W7).1
  have Kp21 : Keep h0 h7 [a1, bC, bU, bF, bR] := (Keep.refl h0 [a1, bC, bU, bF, bR]).wr W7 (Or.inl (List.mem_of_getElem? (i := 1) rfl))
  have ac22 : ∀ t, Steps p.tables e below (T7.setTop (mkF m 9 #[.val (.ref a1), .val (.int p2), .unset, .unset] [])) t → Steps p.tables e below (s₁.setTop (entryFrame m #[(.ref a1), (.int p2)] 4)) t := fun t k => ac6 t (st7 t k)
  have ac23 : ∀ t, Steps p.tables e below (T7.setTop (mkF m 13 #[.val (.ref a1), .val (.int p2), .unset, .unset] [(.int ((p2.toUInt32 >>> ((6 : Int32) &&& 31).toUInt32).toInt32))])) t → Steps p.tables e below (s₁.setTop (entryFrame m #[(.ref a1), (.int p2)] 4)) t := fun t k => ac22 t (by
      show Steps p.tables e below (T7.setTop (mkF m 9 #[.val (.ref a1), .val (.int p2), .unset, .unset] [])) _
      refine XS.iloadN X7.here hx rfl (hb hby d13_9) rfl ?_
      show Steps p.tables e below (T7.setTop (mkF m 10 #[.val (.ref a1), .val (.int p2), .unset, .unset] [(.int p2)])) _
      refine XS.bipush X7.here hx rfl (hb hby d13_10) ?_
      show Steps p.tables e below (T7.setTop (mkF m 12 #[.val (.ref a1), .val (.int p2), .unset, .unset] [(.int (6 : Int32)), (.int p2)])) _
      refine XS.iushr X7.here hx rfl (hb hby d13_12) rfl ?_
      exact k)
  have ac24 : ∀ t, Steps p.tables e below (T7.setTop (mkF m 13 #[.val (.ref a1), .val (.int p2), .unset, .unset] [(.int (own_wd p2))])) t → Steps p.tables e below (s₁.setTop (entryFrame m #[(.ref a1), (.int p2)] 4)) t := ac23
  have hwd := own_wd_v hp
  have hwU : cn / 64 < (nC + 63) / 64 := by omega
  have hwd2 := own_wd_v hwd
  have ac25 : ∀ t, Steps p.tables e below (T7.setTop (mkF m 15 #[.val (.ref a1), .val (.int p2), .val (.int (own_wd p2)), .unset] [(.ref a1)])) t → Steps p.tables e below (s₁.setTop (entryFrame m #[(.ref a1), (.int p2)] 4)) t := fun t k => ac24 t (by
      show Steps p.tables e below (T7.setTop (mkF m 13 #[.val (.ref a1), .val (.int p2), .unset, .unset] [(.int (own_wd p2))])) _
      refine XS.istoreN X7.here hx rfl (hb hby d13_13) rfl (l' := #[.val (.ref a1), .val (.int p2), .val (.int (own_wd p2)), .unset]) rfl ?_
      show Steps p.tables e below (T7.setTop (mkF m 14 #[.val (.ref a1), .val (.int p2), .val (.int (own_wd p2)), .unset] [])) _
      refine XS.aloadN X7.here hx rfl (hb hby d13_14) rfl rfl ?_
      exact k)
  obtain ⟨T26, X26, e26, st26⟩ := getF X7 hx hZ hown (host := "") (Or.inl (hw _ (List.mem_of_getElem? (i := 12) rfl))) Via.refl e7 Ff12 (g := (mkF m 15 #[.val (.ref a1), .val (.int p2), .val (.int (own_wd p2)), .unset] [(.ref a1)])) rfl rfl (hb hby d13_15)
  have ac27 : ∀ t, Steps p.tables e below (T26.setTop (mkF m 18 #[.val (.ref a1), .val (.int p2), .val (.int (own_wd p2)), .unset] [(.ref bU)])) t → Steps p.tables e below (s₁.setTop (entryFrame m #[(.ref a1), (.int p2)] 4)) t := fun t k => ac25 t (st26 t k)
  have ac28 : ∀ t, Steps p.tables e below (T26.setTop (mkF m 20 #[.val (.ref a1), .val (.int p2), .val (.int (own_wd p2)), .unset] [(.int (own_wd p2)), (.ref bU), (.int (own_wd p2)), (.ref bU)])) t → Steps p.tables e below (s₁.setTop (entryFrame m #[(.ref a1), (.int p2)] 4)) t := fun t k => ac27 t (by
      show Steps p.tables e below (T26.setTop (mkF m 18 #[.val (.ref a1), .val (.int p2), .val (.int (own_wd p2)), .unset] [(.ref bU)])) _
      refine XS.iloadN X26.here hx rfl (hb hby d13_18) rfl ?_
      show Steps p.tables e below (T26.setTop (mkF m 19 #[.val (.ref a1), .val (.int p2), .val (.int (own_wd p2)), .unset] [(.int (own_wd p2)), (.ref bU)])) _
      refine XT.dup2 X26.here hx rfl (hb hby d13_19) rfl rfl rfl ?_
      exact k)
  obtain ⟨cl29, Ac29, hin29, hat29⟩ := Vf15.at (j := (own_wd p2)) (i := (cn / 64)) hwd hwU
  have ac30 : ∀ t, Steps p.tables e below (T26.setTop (mkF m 24 #[.val (.ref a1), .val (.int p2), .val (.int (own_wd p2)), .unset] [(.long ((1 : Int64) <<< (p2 &&& 0x3f).toInt64)), (.long (u (cn / 64))), (.int (own_wd p2)), (.ref bU)])) t → Steps p.tables e below (s₁.setTop (entryFrame m #[(.ref a1), (.int p2)] 4)) t := fun t k => ac28 t (by
      show Steps p.tables e below (T26.setTop (mkF m 20 #[.val (.ref a1), .val (.int p2), .val (.int (own_wd p2)), .unset] [(.int (own_wd p2)), (.ref bU), (.int (own_wd p2)), (.ref bU)])) _
      refine X26.laload hx (j := (own_wd p2)) (v := (.long (u (cn / 64)))) (by rw [e26]; exact Ac29.1) (State.isArrayOf_alike hZ.alike Ac29.2.1) Ac29.2.2 hin29 (hat29.trans (congrArg some rfl)) (g := (mkF m 20 #[.val (.ref a1), .val (.int p2), .val (.int (own_wd p2)), .unset] [(.int (own_wd p2)), (.ref bU), (.int (own_wd p2)), (.ref bU)])) rfl rfl (hb hby d13_20) _ ?_
      show Steps p.tables e below (T26.setTop (mkF m 21 #[.val (.ref a1), .val (.int p2), .val (.int (own_wd p2)), .unset] [(.long (u (cn / 64))), (.int (own_wd p2)), (.ref bU)])) _
      refine XS.lconst X26.here hx rfl (hb hby d13_21) ?_
      show Steps p.tables e below (T26.setTop (mkF m 22 #[.val (.ref a1), .val (.int p2), .val (.int (own_wd p2)), .unset] [(.long (1 : Int64)), (.long (u (cn / 64))), (.int (own_wd p2)), (.ref bU)])) _
      refine XS.iloadN X26.here hx rfl (hb hby d13_22) rfl ?_
      show Steps p.tables e below (T26.setTop (mkF m 23 #[.val (.ref a1), .val (.int p2), .val (.int (own_wd p2)), .unset] [(.int p2), (.long (1 : Int64)), (.long (u (cn / 64))), (.int (own_wd p2)), (.ref bU)])) _
      refine XS.lshl X26.here hx rfl (hb hby d13_23) rfl ?_
      exact k)
  have ac31 : ∀ t, Steps p.tables e below (T26.setTop (mkF m 24 #[.val (.ref a1), .val (.int p2), .val (.int (own_wd p2)), .unset] [(.long (own_sh p2)), (.long (u (cn / 64))), (.int (own_wd p2)), (.ref bU)])) t → Steps p.tables e below (s₁.setTop (entryFrame m #[(.ref a1), (.int p2)] 4)) t := ac30
  have ac32 : ∀ t, Steps p.tables e below (T26.setTop (mkF m 29 #[.val (.ref a1), .val (.int p2), .val (.int (own_wd p2)), .unset] [(.long ((u (cn / 64)) &&& ((own_sh p2) ^^^ (-1 : Int64)))), (.int (own_wd p2)), (.ref bU)])) t → Steps p.tables e below (s₁.setTop (entryFrame m #[(.ref a1), (.int p2)] 4)) t := fun t k => ac31 t (by
      show Steps p.tables e below (T26.setTop (mkF m 24 #[.val (.ref a1), .val (.int p2), .val (.int (own_wd p2)), .unset] [(.long (own_sh p2)), (.long (u (cn / 64))), (.int (own_wd p2)), (.ref bU)])) _
      refine X26.ldc2Long hx hown (mvT hZ (hw _ (List.mem_of_getElem? (i := 67) rfl))) (g := (mkF m 24 #[.val (.ref a1), .val (.int p2), .val (.int (own_wd p2)), .unset] [(.long (own_sh p2)), (.long (u (cn / 64))), (.int (own_wd p2)), (.ref bU)])) rfl (hb hby d13_24) _ ?_
      show Steps p.tables e below (T26.setTop (mkF m 27 #[.val (.ref a1), .val (.int p2), .val (.int (own_wd p2)), .unset] [(.long (-1 : Int64)), (.long (own_sh p2)), (.long (u (cn / 64))), (.int (own_wd p2)), (.ref bU)])) _
      refine XS.lxor X26.here hx rfl (hb hby d13_27) rfl ?_
      show Steps p.tables e below (T26.setTop (mkF m 28 #[.val (.ref a1), .val (.int p2), .val (.int (own_wd p2)), .unset] [(.long ((own_sh p2) ^^^ (-1 : Int64))), (.long (u (cn / 64))), (.int (own_wd p2)), (.ref bU)])) _
      refine XS.land X26.here hx rfl (hb hby d13_28) rfl ?_
      exact k)
  obtain ⟨cl33, Ac33, hin33, -⟩ := Vf15.at (j := (own_wd p2)) (i := (cn / 64)) hwd hwU
  obtain ⟨T33, h33, X33, e33, W33, st33⟩ := stJ X26 hx hZ e26 Ac33 (j := (own_wd p2)) hin33 (g := (mkF m 29 #[.val (.ref a1), .val (.int p2), .val (.int (own_wd p2)), .unset] [(.long ((u (cn / 64)) &&& ((own_sh p2) ^^^ (-1 : Int64)))), (.int (own_wd p2)), (.ref bU)])) rfl rfl (hb hby d13_29)
  have V33 := Vf15.set (i := (cn / 64)) hwd W33 rfl
  have Ef34 := Ef8.wr W33
  have Ff35 := Ff9.other W33 (Or.inl ne_a1_bU)
  have Ff36 := Ff10.other W33 (Or.inl ne_a1_bU)
  have Ff37 := Ff11.other W33 (Or.inl ne_a1_bU)
  have Ff38 := Ff12.other W33 (Or.inl ne_a1_bU)
  have Ff39 := Ff13.other W33 (Or.inl ne_a1_bU)
  have Ff40 := Ff14.other W33 (Or.inl ne_a1_bU)
  have Vf41 := Vf16.other W33 (Ne.symm ne_bU_bF)
  have Vf42 := Vf17.other W33 (Ne.symm ne_bU_bR)
  have Ef43 := Ef18.wr W33
  have Ef44 := Ef19.wr W33
  have Ef45 := Ef20.wr W33
  have Vf46 := V7.other W33 ne_bC_bU
  have N33 := Fr.snoc X33 N7 g_bU
  have Z33 : n0 ≤ h33.size := Nat.le_trans Z7 (Keep.of_wr W33).1
  have Kp47 : Keep h0 h33 [a1, bC, bU, bF, bR] := Kp21.wr W33 (Or.inl (List.mem_of_getElem? (i := 2) rfl))
  have ac48 : ∀ t, Steps p.tables e below (T33.setTop (mkF m 30 #[.val (.ref a1), .val (.int p2), .val (.int (own_wd p2)), .unset] [])) t → Steps p.tables e below (s₁.setTop (entryFrame m #[(.ref a1), (.int p2)] 4)) t := fun t k => ac32 t (st33 t k)
  have V49 : own_Ar Z h33 bU .long ((nC + 63) / 64) (fun i => .long ((fun i => if i = cn / 64 then u i &&& (own_sh p2 ^^^ (-1)) else u i) i)) := V33.eq (fun i hi => by dsimp only; by_cases q : i = cn / 64; rw [if_pos q, if_pos q, q]; rw [if_neg q, if_neg q])
  have ac50 : ∀ t, Steps p.tables e below (T33.setTop (mkF m 31 #[.val (.ref a1), .val (.int p2), .val (.int (own_wd p2)), .unset] [(.ref a1)])) t → Steps p.tables e below (s₁.setTop (entryFrame m #[(.ref a1), (.int p2)] 4)) t := fun t k => ac48 t (by
      show Steps p.tables e below (T33.setTop (mkF m 30 #[.val (.ref a1), .val (.int p2), .val (.int (own_wd p2)), .unset] [])) _
      refine XS.aloadN X33.here hx rfl (hb hby d13_30) rfl rfl ?_
      exact k)
  obtain ⟨T51, X51, e51, st51⟩ := getF X33 hx hZ hown (host := "") (Or.inl (hw _ (List.mem_of_getElem? (i := 14) rfl))) Via.refl e33 Ff39 (g := (mkF m 31 #[.val (.ref a1), .val (.int p2), .val (.int (own_wd p2)), .unset] [(.ref a1)])) rfl rfl (hb hby d13_31)
  have ac52 : ∀ t, Steps p.tables e below (T51.setTop (mkF m 34 #[.val (.ref a1), .val (.int p2), .val (.int (own_wd p2)), .unset] [(.ref bF)])) t → Steps p.tables e below (s₁.setTop (entryFrame m #[(.ref a1), (.int p2)] 4)) t := fun t k => ac50 t (st51 t k)
  have ac53 : ∀ t, Steps p.tables e below (T51.setTop (mkF m 38 #[.val (.ref a1), .val (.int p2), .val (.int (own_wd p2)), .unset] [(.int (((own_wd p2).toUInt32 >>> ((6 : Int32) &&& 31).toUInt32).toInt32)), (.ref bF)])) t → Steps p.tables e below (s₁.setTop (entryFrame m #[(.ref a1), (.int p2)] 4)) t := fun t k => ac52 t (by
      show Steps p.tables e below (T51.setTop (mkF m 34 #[.val (.ref a1), .val (.int p2), .val (.int (own_wd p2)), .unset] [(.ref bF)])) _
      refine XS.iloadN X51.here hx rfl (hb hby d13_34) rfl ?_
      show Steps p.tables e below (T51.setTop (mkF m 35 #[.val (.ref a1), .val (.int p2), .val (.int (own_wd p2)), .unset] [(.int (own_wd p2)), (.ref bF)])) _
      refine XS.bipush X51.here hx rfl (hb hby d13_35) ?_
      show Steps p.tables e below (T51.setTop (mkF m 37 #[.val (.ref a1), .val (.int p2), .val (.int (own_wd p2)), .unset] [(.int (6 : Int32)), (.int (own_wd p2)), (.ref bF)])) _
      refine XS.iushr X51.here hx rfl (hb hby d13_37) rfl ?_
      exact k)
  have ac54 : ∀ t, Steps p.tables e below (T51.setTop (mkF m 38 #[.val (.ref a1), .val (.int p2), .val (.int (own_wd p2)), .unset] [(.int (own_wd (own_wd p2))), (.ref bF)])) t → Steps p.tables e below (s₁.setTop (entryFrame m #[(.ref a1), (.int p2)] 4)) t := ac53
  have ac55 : ∀ t, Steps p.tables e below (T51.setTop (mkF m 39 #[.val (.ref a1), .val (.int p2), .val (.int (own_wd p2)), .unset] [(.int (own_wd (own_wd p2))), (.ref bF), (.int (own_wd (own_wd p2))), (.ref bF)])) t → Steps p.tables e below (s₁.setTop (entryFrame m #[(.ref a1), (.int p2)] 4)) t := fun t k => ac54 t (by
      show Steps p.tables e below (T51.setTop (mkF m 38 #[.val (.ref a1), .val (.int p2), .val (.int (own_wd p2)), .unset] [(.int (own_wd (own_wd p2))), (.ref bF)])) _
      refine XT.dup2 X51.here hx rfl (hb hby d13_38) rfl rfl rfl ?_
      exact k)
  obtain ⟨cl56, Ac56, hin56, hat56⟩ := Vf41.at (j := (own_wd (own_wd p2))) (i := (cn / 64 / 64)) hwd2 (by omega)
  have ac57 : ∀ t, Steps p.tables e below (T51.setTop (mkF m 48 #[.val (.ref a1), .val (.int p2), .val (.int (own_wd p2)), .unset] [(.long ((ff (cn / 64 / 64)) &&& (((1 : Int64) <<< ((own_wd p2) &&& 0x3f).toInt64) ^^^ (-1 : Int64)))), (.int (own_wd (own_wd p2))), (.ref bF)])) t → Steps p.tables e below (s₁.setTop (entryFrame m #[(.ref a1), (.int p2)] 4)) t := fun t k => ac55 t (by
      show Steps p.tables e below (T51.setTop (mkF m 39 #[.val (.ref a1), .val (.int p2), .val (.int (own_wd p2)), .unset] [(.int (own_wd (own_wd p2))), (.ref bF), (.int (own_wd (own_wd p2))), (.ref bF)])) _
      refine X51.laload hx (j := (own_wd (own_wd p2))) (v := (.long (ff (cn / 64 / 64)))) (by rw [e51]; exact Ac56.1) (State.isArrayOf_alike hZ.alike Ac56.2.1) Ac56.2.2 hin56 (hat56.trans (congrArg some rfl)) (g := (mkF m 39 #[.val (.ref a1), .val (.int p2), .val (.int (own_wd p2)), .unset] [(.int (own_wd (own_wd p2))), (.ref bF), (.int (own_wd (own_wd p2))), (.ref bF)])) rfl rfl (hb hby d13_39) _ ?_
      show Steps p.tables e below (T51.setTop (mkF m 40 #[.val (.ref a1), .val (.int p2), .val (.int (own_wd p2)), .unset] [(.long (ff (cn / 64 / 64))), (.int (own_wd (own_wd p2))), (.ref bF)])) _
      refine XS.lconst X51.here hx rfl (hb hby d13_40) ?_
      show Steps p.tables e below (T51.setTop (mkF m 41 #[.val (.ref a1), .val (.int p2), .val (.int (own_wd p2)), .unset] [(.long (1 : Int64)), (.long (ff (cn / 64 / 64))), (.int (own_wd (own_wd p2))), (.ref bF)])) _
      refine XS.iloadN X51.here hx rfl (hb hby d13_41) rfl ?_
      show Steps p.tables e below (T51.setTop (mkF m 42 #[.val (.ref a1), .val (.int p2), .val (.int (own_wd p2)), .unset] [(.int (own_wd p2)), (.long (1 : Int64)), (.long (ff (cn / 64 / 64))), (.int (own_wd (own_wd p2))), (.ref bF)])) _
      refine XS.lshl X51.here hx rfl (hb hby d13_42) rfl ?_
      show Steps p.tables e below (T51.setTop (mkF m 43 #[.val (.ref a1), .val (.int p2), .val (.int (own_wd p2)), .unset] [(.long ((1 : Int64) <<< ((own_wd p2) &&& 0x3f).toInt64)), (.long (ff (cn / 64 / 64))), (.int (own_wd (own_wd p2))), (.ref bF)])) _
      refine X51.ldc2Long hx hown (mvT hZ (hw _ (List.mem_of_getElem? (i := 67) rfl))) (g := (mkF m 43 #[.val (.ref a1), .val (.int p2), .val (.int (own_wd p2)), .unset] [(.long ((1 : Int64) <<< ((own_wd p2) &&& 0x3f).toInt64)), (.long (ff (cn / 64 / 64))), (.int (own_wd (own_wd p2))), (.ref bF)])) rfl (hb hby d13_43) _ ?_
      show Steps p.tables e below (T51.setTop (mkF m 46 #[.val (.ref a1), .val (.int p2), .val (.int (own_wd p2)), .unset] [(.long (-1 : Int64)), (.long ((1 : Int64) <<< ((own_wd p2) &&& 0x3f).toInt64)), (.long (ff (cn / 64 / 64))), (.int (own_wd (own_wd p2))), (.ref bF)])) _
      refine XS.lxor X51.here hx rfl (hb hby d13_46) rfl ?_
      show Steps p.tables e below (T51.setTop (mkF m 47 #[.val (.ref a1), .val (.int p2), .val (.int (own_wd p2)), .unset] [(.long (((1 : Int64) <<< ((own_wd p2) &&& 0x3f).toInt64) ^^^ (-1 : Int64))), (.long (ff (cn / 64 / 64))), (.int (own_wd (own_wd p2))), (.ref bF)])) _
      refine XS.land X51.here hx rfl (hb hby d13_47) rfl ?_
      exact k)
  obtain ⟨cl58, Ac58, hin58, -⟩ := Vf41.at (j := (own_wd (own_wd p2))) (i := (cn / 64 / 64)) hwd2 (by omega)
  obtain ⟨T58, h58, X58, e58, W58, st58⟩ := stJ X51 hx hZ e51 Ac58 (j := (own_wd (own_wd p2))) hin58 (g := (mkF m 48 #[.val (.ref a1), .val (.int p2), .val (.int (own_wd p2)), .unset] [(.long ((ff (cn / 64 / 64)) &&& (((1 : Int64) <<< ((own_wd p2) &&& 0x3f).toInt64) ^^^ (-1 : Int64)))), (.int (own_wd (own_wd p2))), (.ref bF)])) rfl rfl (hb hby d13_48)
  have V58 := Vf41.set (i := (cn / 64 / 64)) hwd2 W58 rfl
  have Ef59 := Ef34.wr W58
  have Ff60 := Ff35.other W58 (Or.inl ne_a1_bF)
  have Ff61 := Ff36.other W58 (Or.inl ne_a1_bF)
  have Ff62 := Ff37.other W58 (Or.inl ne_a1_bF)
  have Ff63 := Ff38.other W58 (Or.inl ne_a1_bF)
  have Ff64 := Ff39.other W58 (Or.inl ne_a1_bF)
  have Ff65 := Ff40.other W58 (Or.inl ne_a1_bF)
  have Vf66 := Vf42.other W58 (Ne.symm ne_bF_bR)
  have Ef67 := Ef43.wr W58
  have Ef68 := Ef44.wr W58
  have Ef69 := Ef45.wr W58
  have Vf70 := Vf46.other W58 ne_bC_bF
  have Vf71 := V49.other W58 ne_bU_bF
  have N58 := Fr.snoc X58 N33 g_bF
  have Z58 : n0 ≤ h58.size := Nat.le_trans Z33 (Keep.of_wr W58).1
  have Kp72 : Keep h0 h58 [a1, bC, bU, bF, bR] := Kp47.wr W58 (Or.inl (List.mem_of_getElem? (i := 3) rfl))
  have ac73 : ∀ t, Steps p.tables e below (T58.setTop (mkF m 49 #[.val (.ref a1), .val (.int p2), .val (.int (own_wd p2)), .unset] [])) t → Steps p.tables e below (s₁.setTop (entryFrame m #[(.ref a1), (.int p2)] 4)) t := fun t k => ac57 t (st58 t k)
  have V74 : own_Ar Z h58 bF .long (((nC + 63) / 64 + 63) / 64) (fun i => .long ((fun i => if i = cn / 64 / 64 then ((ff (cn / 64 / 64)) &&& (((1 : Int64) <<< ((own_wd p2) &&& 0x3f).toInt64) ^^^ (-1 : Int64))) else ff i) i)) := V58.eq (fun i hi => by dsimp only; by_cases q : i = cn / 64 / 64; rw [if_pos q, if_pos q]; rw [if_neg q, if_neg q])
  have ac75 : ∀ t, Steps p.tables e below (T58.setTop (mkF m 51 #[.val (.ref a1), .val (.int p2), .val (.int (own_wd p2)), .unset] [(.ref a1), (.ref a1)])) t → Steps p.tables e below (s₁.setTop (entryFrame m #[(.ref a1), (.int p2)] 4)) t := fun t k => ac73 t (by
      show Steps p.tables e below (T58.setTop (mkF m 49 #[.val (.ref a1), .val (.int p2), .val (.int (own_wd p2)), .unset] [])) _
      refine XS.aloadN X58.here hx rfl (hb hby d13_49) rfl rfl ?_
      show Steps p.tables e below (T58.setTop (mkF m 50 #[.val (.ref a1), .val (.int p2), .val (.int (own_wd p2)), .unset] [(.ref a1)])) _
      refine XS.aloadN X58.here hx rfl (hb hby d13_50) rfl rfl ?_
      exact k)
  obtain ⟨T76, X76, e76, st76⟩ := getF X58 hx hZ hown (host := "") (Or.inl (hw _ (List.mem_of_getElem? (i := 73) rfl))) Via.refl e58 Ff60 (g := (mkF m 51 #[.val (.ref a1), .val (.int p2), .val (.int (own_wd p2)), .unset] [(.ref a1), (.ref a1)])) rfl rfl (hb hby d13_51)
  have ac77 : ∀ t, Steps p.tables e below (T76.setTop (mkF m 54 #[.val (.ref a1), .val (.int p2), .val (.int (own_wd p2)), .unset] [(.int low), (.ref a1)])) t → Steps p.tables e below (s₁.setTop (entryFrame m #[(.ref a1), (.int p2)] 4)) t := fun t k => ac75 t (st76 t k)
  have ac78 : ∀ t, Steps p.tables e below (T76.setTop (mkF m 55 #[.val (.ref a1), .val (.int p2), .val (.int (own_wd p2)), .unset] [(.int p2), (.int low), (.ref a1)])) t → Steps p.tables e below (s₁.setTop (entryFrame m #[(.ref a1), (.int p2)] 4)) t := fun t k => ac77 t (by
      show Steps p.tables e below (T76.setTop (mkF m 54 #[.val (.ref a1), .val (.int p2), .val (.int (own_wd p2)), .unset] [(.int low), (.ref a1)])) _
      refine XS.iloadN X76.here hx rfl (hb hby d13_54) rfl ?_
      exact k)
  obtain ⟨_, _, ⟨T79, L79, k79, n79⟩, -, X79, ⟨Lc79, hQ79, l79, y79, z79⟩, st79⟩ := Jvm.LawKit.callS X76 hx (y := (⟨"java/lang/Math", "min", "(II)I"⟩ : MethodName)) hown (mvT hZ (hw _ (List.mem_of_getElem? (i := 89) rfl))) (mvT hZ (hw _ (List.mem_of_getElem? (i := 61) rfl))) (mvT hZ (hw _ (List.mem_of_getElem? (i := 28) rfl))) (mvT hZ (hw _ (List.mem_of_getElem? (i := 62) rfl))) (by decide) (backOf (W := 1) (rm10 l Z a0 hw [] low p2  h58 n0 Z58 ) hZ (hw _ (List.mem_of_getElem? (i := 62) rfl)) (hw _ (List.mem_of_getElem? (i := 28) rfl)) (by decide) (by decide)) (g := (mkF m 55 #[.val (.ref a1), .val (.int p2), .val (.int (own_wd p2)), .unset] [(.int p2), (.int low), (.ref a1)])) rfl (by rw [hml]; rfl) (argsL := [(.int low), (.int p2)]) (rest := [(.ref a1)]) (lenOf pd_7 rfl) rfl (by show 2 * 0 + _ ≤ _; exact Nat.le_of_eq rfl) (hb hby d13_55) (fun _ _ => ⟨rfl, e76, (by decide : 0 + 0 ≤ _), (by decide : 0 + 0 ≤ _)⟩)
  dsimp only [Pt.U, Pt.locs, Pt.cells, Pt.slots] at X79 l79 y79 z79 st79 hQ79
  subst l79 y79 z79
  obtain ⟨rfl, N79q, Qe79⟩ := hQ79
  have N79 := Fr.app N58 N79q
  have ac80 : ∀ t, Steps p.tables e below (T79.setTop (mkF m 58 #[.val (.ref a1), .val (.int p2), .val (.int (own_wd p2)), .unset] [(.int (own_min low p2)), (.ref a1)])) t → Steps p.tables e below (s₁.setTop (entryFrame m #[(.ref a1), (.int p2)] 4)) t := fun t k => ac78 t (st79 t k)
  obtain ⟨T81, h81, X81, e81, W81, st81⟩ := putF X79 hx hZ hown (host := "") (Or.inl (hw _ (List.mem_of_getElem? (i := 73) rfl))) Via.refl Qe79 Ff60 Ef59 (Or.inl (hw _ (List.mem_of_getElem? (i := 74) rfl))) (hw _ (List.mem_of_getElem? (i := 1) rfl)) (ty := .int) (by decide) rfl rfl (g := (mkF m 58 #[.val (.ref a1), .val (.int p2), .val (.int (own_wd p2)), .unset] [(.int (own_min low p2)), (.ref a1)])) rfl rfl (hb hby d13_58)
  have Fw81 := Ff60.same W81
  have Ef82 := Ef59.wr W81
  have Ff83 := Ff61.other W81 (Or.inr (slot_ne (Or.inl (hw _ (List.mem_of_getElem? (i := 69) rfl))) (Or.inl (hw _ (List.mem_of_getElem? (i := 74) rfl))) (by decide) (t := .int) (t' := .int) (by decide) (by decide)))
  have Ff84 := Ff62.other W81 (Or.inr (slot_ne (Or.inl (hw _ (List.mem_of_getElem? (i := 11) rfl))) (Or.inl (hw _ (List.mem_of_getElem? (i := 74) rfl))) (by decide) (t := (.array .long)) (t' := .int) (by decide) (by decide)))
  have Ff85 := Ff63.other W81 (Or.inr (slot_ne (Or.inl (hw _ (List.mem_of_getElem? (i := 13) rfl))) (Or.inl (hw _ (List.mem_of_getElem? (i := 74) rfl))) (by decide) (t := (.array .long)) (t' := .int) (by decide) (by decide)))
  have Ff86 := Ff64.other W81 (Or.inr (slot_ne (Or.inl (hw _ (List.mem_of_getElem? (i := 15) rfl))) (Or.inl (hw _ (List.mem_of_getElem? (i := 74) rfl))) (by decide) (t := (.array .long)) (t' := .int) (by decide) (by decide)))
  have Ff87 := Ff65.other W81 (Or.inr (slot_ne (Or.inr (hw _ (List.mem_of_getElem? (i := 18) rfl))) (Or.inl (hw _ (List.mem_of_getElem? (i := 74) rfl))) (by decide) (t := (.array .int)) (t' := .int) (by decide) (by decide)))
  have Vf88 := Vf66.other W81 (Ne.symm ne_a1_bR)
  have Ef89 := Ef67.wr W81
  have Ef90 := Ef68.wr W81
  have Ef91 := Ef69.wr W81
  have Vf92 := Vf70.other W81 (Ne.symm ne_a1_bC)
  have Vf93 := Vf71.other W81 (Ne.symm ne_a1_bU)
  have Vf94 := V74.other W81 (Ne.symm ne_a1_bF)
  have N81 := Fr.snoc X81 N79 g_a1
  have Z81 : n0 ≤ h81.size := Nat.le_trans Z58 (Keep.of_wr W81).1
  have Kp95 : Keep h0 h81 [a1, bC, bU, bF, bR] := Kp72.wr W81 (Or.inl (List.mem_of_getElem? (i := 0) rfl))
  have ac96 : ∀ t, Steps p.tables e below (T81.setTop (mkF m 61 #[.val (.ref a1), .val (.int p2), .val (.int (own_wd p2)), .unset] [])) t → Steps p.tables e below (s₁.setTop (entryFrame m #[(.ref a1), (.int p2)] 4)) t := fun t k => ac80 t (st81 t k)
  have ac97 : ∀ t, Steps p.tables e below (T81.setTop (mkF m 63 #[.val (.ref a1), .val (.int p2), .val (.int (own_wd p2)), .val (.int (1 : Int32))] [])) t → Steps p.tables e below (s₁.setTop (entryFrame m #[(.ref a1), (.int p2)] 4)) t := fun t k => ac96 t (by
      show Steps p.tables e below (T81.setTop (mkF m 61 #[.val (.ref a1), .val (.int p2), .val (.int (own_wd p2)), .unset] [])) _
      refine XS.iconst X81.here hx rfl (hb hby d13_61) ?_
      show Steps p.tables e below (T81.setTop (mkF m 62 #[.val (.ref a1), .val (.int p2), .val (.int (own_wd p2)), .unset] [(.int (1 : Int32))])) _
      refine XS.istoreN X81.here hx rfl (hb hby d13_62) rfl (l' := #[.val (.ref a1), .val (.int p2), .val (.int (own_wd p2)), .val (.int (1 : Int32))]) rfl ?_
      exact k)
  have loop : ∀ (k : Nat) (T : State) (hL : Heap) (locs : List Loc) (i : Int32) (j : Nat) (rL : Nat → Int32), Stand p l e ({ frames := 1, cells := 0, slots := 0, locals := 20 } : Room) s m #[(.ref a1), (.int p2)] below meth c T locs 0 0 → T.heap = hL → Fld Z hL a1 "com/example/twinbase/twinbase/CellSpace" "resume" "[I" (.ref bR) → own_Ar Z hL bR .int 32 (fun i => .int (rL i)) → Fr n0 locs → n0 ≤ hL.size → i.toInt = j → j + k = 32 →
      ∃ (T' : State) (h' : Heap) (locs' : List Loc) (iE : Int32) (r' : Nat → Int32), Stand p l e ({ frames := 1, cells := 0, slots := 0, locals := 20 } : Room) s m #[(.ref a1), (.int p2)] below meth c T' locs' 0 0 ∧ T'.heap = h' ∧ Fr n0 locs' ∧ Keep hL h' [bR] ∧ own_Ar Z h' bR .int 32 (fun i => .int (r' i)) ∧ ∀ t, Steps p.tables e below (T'.setTop (mkF m 91 #[.val (.ref a1), .val (.int p2), .val (.int (own_wd p2)), .val (.int iE)] [])) t → Steps p.tables e below (T.setTop (mkF m 63 #[.val (.ref a1), .val (.int p2), .val (.int (own_wd p2)), .val (.int i)] [])) t := by
    intro k
    induction k with
    | zero =>
      intro T hL locs i j rL XL eL FL VL NL ZL hi hk
      have aL : ∀ t, Steps p.tables e below (T.setTop (mkF m 63 #[.val (.ref a1), .val (.int p2), .val (.int (own_wd p2)), .val (.int i)] [])) t → Steps p.tables e below (T.setTop (mkF m 63 #[.val (.ref a1), .val (.int p2), .val (.int (own_wd p2)), .val (.int i)] [])) t := fun t k => k
      have z32 : (32 : Int32).toInt = 32 := rfl
      have ac98 : ∀ t, Steps p.tables e below (T.setTop (mkF m 91 #[.val (.ref a1), .val (.int p2), .val (.int (own_wd p2)), .val (.int i)] [])) t → Steps p.tables e below (T.setTop (mkF m 63 #[.val (.ref a1), .val (.int p2), .val (.int (own_wd p2)), .val (.int i)] [])) t := fun t k => aL t (by
          show Steps p.tables e below (T.setTop (mkF m 63 #[.val (.ref a1), .val (.int p2), .val (.int (own_wd p2)), .val (.int i)] [])) _
          refine XS.iloadN XL.here hx rfl (hb hby d13_63) rfl ?_
          show Steps p.tables e below (T.setTop (mkF m 64 #[.val (.ref a1), .val (.int p2), .val (.int (own_wd p2)), .val (.int i)] [(.int i)])) _
          refine XS.bipush XL.here hx rfl (hb hby d13_64) ?_
          show Steps p.tables e below (T.setTop (mkF m 66 #[.val (.ref a1), .val (.int p2), .val (.int (own_wd p2)), .val (.int i)] [(.int (32 : Int32)), (.int i)])) _
          refine XS.icmpYes XL.here hx rfl (pc0 := 66) (pc' := 91) rfl (hb hby d13_66) rfl (flt (own_nlt_of (by omega))).2.1 (by decide) (by decide) ?_
          exact k)
      exact ⟨T, hL, locs, i, rL, XL, eL, NL, Keep.refl _ _, VL, ac98⟩
    | succ k ih =>
      intro T hL locs i j rL XL eL FL VL NL ZL hi hk
      have aL : ∀ t, Steps p.tables e below (T.setTop (mkF m 63 #[.val (.ref a1), .val (.int p2), .val (.int (own_wd p2)), .val (.int i)] [])) t → Steps p.tables e below (T.setTop (mkF m 63 #[.val (.ref a1), .val (.int p2), .val (.int (own_wd p2)), .val (.int i)] [])) t := fun t k => k
      have z32 : (32 : Int32).toInt = 32 := rfl
      have ac99 : ∀ t, Steps p.tables e below (T.setTop (mkF m 70 #[.val (.ref a1), .val (.int p2), .val (.int (own_wd p2)), .val (.int i)] [(.ref a1)])) t → Steps p.tables e below (T.setTop (mkF m 63 #[.val (.ref a1), .val (.int p2), .val (.int (own_wd p2)), .val (.int i)] [])) t := fun t k => aL t (by
          show Steps p.tables e below (T.setTop (mkF m 63 #[.val (.ref a1), .val (.int p2), .val (.int (own_wd p2)), .val (.int i)] [])) _
          refine XS.iloadN XL.here hx rfl (hb hby d13_63) rfl ?_
          show Steps p.tables e below (T.setTop (mkF m 64 #[.val (.ref a1), .val (.int p2), .val (.int (own_wd p2)), .val (.int i)] [(.int i)])) _
          refine XS.bipush XL.here hx rfl (hb hby d13_64) ?_
          show Steps p.tables e below (T.setTop (mkF m 66 #[.val (.ref a1), .val (.int p2), .val (.int (own_wd p2)), .val (.int i)] [(.int (32 : Int32)), (.int i)])) _
          refine XS.icmpNo XL.here hx rfl (hb hby d13_66) rfl (tlt (own_lt_of (by omega))).2.1 ?_
          show Steps p.tables e below (T.setTop (mkF m 69 #[.val (.ref a1), .val (.int p2), .val (.int (own_wd p2)), .val (.int i)] [])) _
          refine XS.aloadN XL.here hx rfl (hb hby d13_69) rfl rfl ?_
          exact k)
      obtain ⟨T100, X100, e100, st100⟩ := getF XL hx hZ hown (host := "") (Or.inl (hw _ (List.mem_of_getElem? (i := 17) rfl))) Via.refl eL FL (g := (mkF m 70 #[.val (.ref a1), .val (.int p2), .val (.int (own_wd p2)), .val (.int i)] [(.ref a1)])) rfl rfl (hb hby d13_70)
      have ac101 : ∀ t, Steps p.tables e below (T100.setTop (mkF m 73 #[.val (.ref a1), .val (.int p2), .val (.int (own_wd p2)), .val (.int i)] [(.ref bR)])) t → Steps p.tables e below (T.setTop (mkF m 63 #[.val (.ref a1), .val (.int p2), .val (.int (own_wd p2)), .val (.int i)] [])) t := fun t k => ac99 t (st100 t k)
      have ac102 : ∀ t, Steps p.tables e below (T100.setTop (mkF m 75 #[.val (.ref a1), .val (.int p2), .val (.int (own_wd p2)), .val (.int i)] [(.ref a1), (.int i), (.ref bR)])) t → Steps p.tables e below (T.setTop (mkF m 63 #[.val (.ref a1), .val (.int p2), .val (.int (own_wd p2)), .val (.int i)] [])) t := fun t k => ac101 t (by
          show Steps p.tables e below (T100.setTop (mkF m 73 #[.val (.ref a1), .val (.int p2), .val (.int (own_wd p2)), .val (.int i)] [(.ref bR)])) _
          refine XS.iloadN X100.here hx rfl (hb hby d13_73) rfl ?_
          show Steps p.tables e below (T100.setTop (mkF m 74 #[.val (.ref a1), .val (.int p2), .val (.int (own_wd p2)), .val (.int i)] [(.int i), (.ref bR)])) _
          refine XS.aloadN X100.here hx rfl (hb hby d13_74) rfl rfl ?_
          exact k)
      obtain ⟨T103, X103, e103, st103⟩ := getF X100 hx hZ hown (host := "") (Or.inl (hw _ (List.mem_of_getElem? (i := 17) rfl))) Via.refl e100 FL (g := (mkF m 75 #[.val (.ref a1), .val (.int p2), .val (.int (own_wd p2)), .val (.int i)] [(.ref a1), (.int i), (.ref bR)])) rfl rfl (hb hby d13_75)
      have ac104 : ∀ t, Steps p.tables e below (T103.setTop (mkF m 78 #[.val (.ref a1), .val (.int p2), .val (.int (own_wd p2)), .val (.int i)] [(.ref bR), (.int i), (.ref bR)])) t → Steps p.tables e below (T.setTop (mkF m 63 #[.val (.ref a1), .val (.int p2), .val (.int (own_wd p2)), .val (.int i)] [])) t := fun t k => ac102 t (st103 t k)
      have ac105 : ∀ t, Steps p.tables e below (T103.setTop (mkF m 79 #[.val (.ref a1), .val (.int p2), .val (.int (own_wd p2)), .val (.int i)] [(.int i), (.ref bR), (.int i), (.ref bR)])) t → Steps p.tables e below (T.setTop (mkF m 63 #[.val (.ref a1), .val (.int p2), .val (.int (own_wd p2)), .val (.int i)] [])) t := fun t k => ac104 t (by
          show Steps p.tables e below (T103.setTop (mkF m 78 #[.val (.ref a1), .val (.int p2), .val (.int (own_wd p2)), .val (.int i)] [(.ref bR), (.int i), (.ref bR)])) _
          refine XS.iloadN X103.here hx rfl (hb hby d13_78) rfl ?_
          exact k)
      obtain ⟨cl106, Ac106, hin106, hat106⟩ := VL.at (j := i) (i := j) hi (by omega)
      have ac107 : ∀ t, Steps p.tables e below (T103.setTop (mkF m 81 #[.val (.ref a1), .val (.int p2), .val (.int (own_wd p2)), .val (.int i)] [(.int p2), (.int (rL j)), (.int i), (.ref bR)])) t → Steps p.tables e below (T.setTop (mkF m 63 #[.val (.ref a1), .val (.int p2), .val (.int (own_wd p2)), .val (.int i)] [])) t := fun t k => ac105 t (by
          show Steps p.tables e below (T103.setTop (mkF m 79 #[.val (.ref a1), .val (.int p2), .val (.int (own_wd p2)), .val (.int i)] [(.int i), (.ref bR), (.int i), (.ref bR)])) _
          refine X103.iaload hx (j := i) (v := (.int (rL j))) (by rw [e103]; exact Ac106.1) (State.isArrayOf_alike hZ.alike Ac106.2.1) Ac106.2.2 hin106 (hat106.trans (congrArg some rfl)) (g := (mkF m 79 #[.val (.ref a1), .val (.int p2), .val (.int (own_wd p2)), .val (.int i)] [(.int i), (.ref bR), (.int i), (.ref bR)])) rfl rfl (hb hby d13_79) _ ?_
          show Steps p.tables e below (T103.setTop (mkF m 80 #[.val (.ref a1), .val (.int p2), .val (.int (own_wd p2)), .val (.int i)] [(.int (rL j)), (.int i), (.ref bR)])) _
          refine XS.iloadN X103.here hx rfl (hb hby d13_80) rfl ?_
          exact k)
      obtain ⟨_, _, ⟨T108, L108, k108, n108⟩, -, X108, ⟨Lc108, hQ108, l108, y108, z108⟩, st108⟩ := Jvm.LawKit.callS X103 hx (y := (⟨"java/lang/Math", "min", "(II)I"⟩ : MethodName)) hown (mvT hZ (hw _ (List.mem_of_getElem? (i := 89) rfl))) (mvT hZ (hw _ (List.mem_of_getElem? (i := 61) rfl))) (mvT hZ (hw _ (List.mem_of_getElem? (i := 28) rfl))) (mvT hZ (hw _ (List.mem_of_getElem? (i := 62) rfl))) (by decide) (backOf (W := 2) (rm10 l Z a0 hw [] (rL j) p2  hL n0 ZL ) hZ (hw _ (List.mem_of_getElem? (i := 62) rfl)) (hw _ (List.mem_of_getElem? (i := 28) rfl)) (by decide) (by decide)) (g := (mkF m 81 #[.val (.ref a1), .val (.int p2), .val (.int (own_wd p2)), .val (.int i)] [(.int p2), (.int (rL j)), (.int i), (.ref bR)])) rfl (by rw [hml]; rfl) (argsL := [(.int (rL j)), (.int p2)]) (rest := [(.int i), (.ref bR)]) (lenOf pd_7 rfl) rfl (by show 2 * 0 + _ ≤ _; exact Nat.le_of_eq rfl) (hb hby d13_81) (fun _ _ => ⟨rfl, e103, (by decide : 0 + 0 ≤ _), (by decide : 0 + 0 ≤ _)⟩)
      dsimp only [Pt.U, Pt.locs, Pt.cells, Pt.slots] at X108 l108 y108 z108 st108 hQ108
      subst l108 y108 z108
      obtain ⟨rfl, N108q, Qe108⟩ := hQ108
      have N108 := Fr.app NL N108q
      have ac109 : ∀ t, Steps p.tables e below (T108.setTop (mkF m 84 #[.val (.ref a1), .val (.int p2), .val (.int (own_wd p2)), .val (.int i)] [(.int (own_min (rL j) p2)), (.int i), (.ref bR)])) t → Steps p.tables e below (T.setTop (mkF m 63 #[.val (.ref a1), .val (.int p2), .val (.int (own_wd p2)), .val (.int i)] [])) t := fun t k => ac107 t (st108 t k)
      obtain ⟨cl110, Ac110, hin110, -⟩ := VL.at (j := i) (i := j) hi (by omega)
      obtain ⟨T110, h110, X110, e110, W110, st110⟩ := stI X108 hx hZ Qe108 Ac110 (j := i) hin110 (g := (mkF m 84 #[.val (.ref a1), .val (.int p2), .val (.int (own_wd p2)), .val (.int i)] [(.int (own_min (rL j) p2)), (.int i), (.ref bR)])) rfl rfl (hb hby d13_84)
      have V110 := VL.set (i := j) hi W110 rfl
      have Ff111 := FL.other W110 (Or.inl ne_a1_bR)
      have N110 := Fr.snoc X110 N108 g_bR
      have Z110 : n0 ≤ h110.size := Nat.le_trans ZL (Keep.of_wr W110).1
      have ac112 : ∀ t, Steps p.tables e below (T110.setTop (mkF m 85 #[.val (.ref a1), .val (.int p2), .val (.int (own_wd p2)), .val (.int i)] [])) t → Steps p.tables e below (T.setTop (mkF m 63 #[.val (.ref a1), .val (.int p2), .val (.int (own_wd p2)), .val (.int i)] [])) t := fun t k => ac109 t (st110 t k)
      have V113 : own_Ar Z h110 bR .int 32 (fun i => .int ((fun i => if i = j then own_min (rL j) p2 else rL i) i)) := V110.eq (fun i hi => by dsimp only; by_cases q : i = j; rw [if_pos q, if_pos q]; rw [if_neg q, if_neg q])
      have ac114 : ∀ t, Steps p.tables e below (T110.setTop (mkF m 63 #[.val (.ref a1), .val (.int p2), .val (.int (own_wd p2)), .val (.int (i + (1 : Int32)))] [])) t → Steps p.tables e below (T.setTop (mkF m 63 #[.val (.ref a1), .val (.int p2), .val (.int (own_wd p2)), .val (.int i)] [])) t := fun t k => ac112 t (by
          show Steps p.tables e below (T110.setTop (mkF m 85 #[.val (.ref a1), .val (.int p2), .val (.int (own_wd p2)), .val (.int i)] [])) _
          refine XS.iinc X110.here hx rfl (hb hby d13_85) rfl (l' := #[.val (.ref a1), .val (.int p2), .val (.int (own_wd p2)), .val (.int (i + (1 : Int32)))]) rfl ?_
          show Steps p.tables e below (T110.setTop (mkF m 88 #[.val (.ref a1), .val (.int p2), .val (.int (own_wd p2)), .val (.int (i + (1 : Int32)))] [])) _
          refine XS.goto X110.here hx rfl (pc0 := 88) (pc' := 63) rfl (hb hby d13_88) (by decide) (by decide) ?_
          exact k)
      have ci := c_iadd i 1
      have ri := rng32 (i + 1)
      have z1 : (1 : Int32).toInt = 1 := rfl
      obtain ⟨T', h', locs', iE, r', X', e', N', K', V', st'⟩ := ih T110 h110 _ (i + (1 : Int32)) (j + 1) _ X110 e110 Ff111 V113 N110 Z110 (by omega) (by omega)
      exact ⟨T', h', locs', iE, r', X', e', N', (Keep.of_wr W110).trans K' (allS (Or.inl (List.mem_of_getElem? (i := 0) rfl)) all0), V', fun t k => ac114 t (st' t k)⟩
  obtain ⟨T115, h115, Lc115, iE115, r115, X115, e115, Nq115, K115q, V115, st115⟩ := loop 31 T81 h81 _ (1 : Int32) 1 r X81 e81 Ff87 Vf88 N81 Z81 rfl rfl
  have Ef116 := Ef82.keep K115q
  have Ff117 := Ff83.keep K115q (ninS ne_a1_bR nin0)
  have Ff118 := Ff84.keep K115q (ninS ne_a1_bR nin0)
  have Ff119 := Ff85.keep K115q (ninS ne_a1_bR nin0)
  have Ff120 := Ff86.keep K115q (ninS ne_a1_bR nin0)
  have Ff121 := Ff87.keep K115q (ninS ne_a1_bR nin0)
  have Ef122 := Ef89.keep K115q
  have Ef123 := Ef90.keep K115q
  have Ef124 := Ef91.keep K115q
  have Vf125 := Vf92.keep K115q (ninS ne_bC_bR nin0)
  have Vf126 := Vf93.keep K115q (ninS ne_bU_bR nin0)
  have Vf127 := Vf94.keep K115q (ninS ne_bF_bR nin0)
  have Ff128 := Fw81.keep K115q (ninS ne_a1_bR nin0)
  have Kp129 : Keep h0 h115 [a1, bC, bU, bF, bR] := Kp95.trans K115q (allS (Or.inl (List.mem_of_getElem? (i := 4) rfl)) all0)
  have ac130 : ∀ t, Steps p.tables e below (T115.setTop (mkF m 91 #[.val (.ref a1), .val (.int p2), .val (.int (own_wd p2)), .val (.int iE115)] [])) t → Steps p.tables e below (s₁.setTop (entryFrame m #[(.ref a1), (.int p2)] 4)) t := fun t k => ac97 t (st115 t k)
  obtain ⟨fs, hr, hrun, hended, hW, hsame⟩ := X115.leave (v := none) (fun _ => rfl) (BodyLoose.notSynchronized Bd)
  refine ⟨_, _, ac130 _ ?_, hrun, hended, _, _, rfl, ?_, ⟨_, rfl⟩, hW, hsame.mono (by decide) (by decide)⟩
  · show Steps p.tables e below (T115.setTop (mkF m 91 #[.val (.ref a1), .val (.int p2), .val (.int (own_wd p2)), .val (.int iE115)] [])) _
    exact X115.returnOut hx Bd.returns (hb hby d13_91) hr
  · show Q13 Z a1 p2 low sz bC bU bF bR nC fC u ff r cn frv h0 n0 _ T115.heap _
    rw [e115]
    exact ⟨_, _, r115, _, rfl, Nq115, Kp129, ⟨Ef116, Ff118, Ff119, Ff120, Ff121, Ff128, Ff117, Vf125, Vf126, Vf127, V115, Ef122, Ef123, Ef124, ne_a1_bC, ne_a1_bU, ne_a1_bF, ne_a1_bR, ne_bC_bU, ne_bC_bF, ne_bC_bR, ne_bU_bF, ne_bU_bR, ne_bF_bR, g_bC, g_bU, g_bF, g_bR⟩⟩
theorem ef_rm0 (m : MethodId) (x0 : Int32) (x1 : Int32) (x2 : Int32) (x3 : Int32) (x4 : Int64) : entryFrame m #[(.int x0), (.int x1), (.int x2), (.int x3), (.long x4)] maxLocals = mkF m 0 #[.val (.int x0), .val (.int x1), .val (.int x2), .val (.int x3), .val (.long x4), .second, .unset, .unset, .unset, .unset, .unset, .unset, .unset, .unset, .unset, .unset, .unset, .unset, .unset] [] := by first | (simp [entryFrame, mkF, argsToLocals, Value.category, maxLocals]; done) | rfl
def Q0 (Z : State) (p1 : Int32) (p2 : Int32) (p3 : Int32) (p4 : Int32) (q5 : Int64) (frv : Int64) (h0 : Heap) (n0 : Nat) (v : Option Value) (h : Heap) (L : List Loc) : Prop := v = some (.int 1) ∧ Fr n0 L
set_option maxRecDepth 65536 in
set_option maxHeartbeats 40000000 in
theorem rm0 (l : Launch) (Z : State) (a0 : Array Value) (hw : ∀ d ∈ tables_1, d.before a0 Z = true) (ws : List Jvm.Cond) (p1 : Int32) (p2 : Int32) (p3 : Int32) (p4 : Int32) (q5 : Int64) (frv : Int64) (h0 : Heap) (n0 : Nat) (Z0 : n0 ≤ h0.size) (Sf : Sta Z h0 "com/example/twinbase/twinbase/DoubleArray" "FREE" "J" (.long frv)) :
    MetFree l x (head1 (Jvm.Cond.code x code maxLocals ret :: ws) room_1) (fun a U => a = #[(.int p1), (.int p2), (.int p3), (.int p4), (.long q5)] ∧ Z.Warmed39 U.vm ∧ U.heap = h0) (fun _ _ _ _ _ => True) (fun _ U o U' => ∃ v L, o = .returned v ∧ Q0 Z p1 p2 p3 p4 q5 frv h0 n0 v U'.heap L ∧ FrameEnd U o U' L room_1.cells room_1.slots) := by
  refine MetFree.of_bodySF (plainFor_of_name pn_0) hisR ?_
  intro p e s m args below meth c s₁ Bd hml0 hP hK
  obtain ⟨rfl, hZ, hh⟩ := hP
  have hx := Bd.exec
  have hby := Bd.bytes
  have hml : c.maxLocals = 19 := hml0
  have hown : s.vm.findClass "com/example/twinbase/twinbase/CellSpaceIsFreePinLaw" = some m.cls := findClass_of_methodNamed Bd.named
  have hnm := (name_of_methodNamed Bd.named Bd.method).1
  have X0 : Stand p l e room_1 s m #[(.int p1), (.int p2), (.int p3), (.int p4), (.long q5)] below meth c s₁ [] 0 0 := Stand.of_body Bd
  have e0 : s₁.heap = h0 := by rw [← hh, Bd.state]; rfl
  have N0 := Fr.nil n0
  have a0s : ∀ t, Steps p.tables e below (s₁.setTop (mkF m 0 #[.val (.int p1), .val (.int p2), .val (.int p3), .val (.int p4), .val (.long q5), .second, .unset, .unset, .unset, .unset, .unset, .unset, .unset, .unset, .unset, .unset, .unset, .unset, .unset] [])) t → Steps p.tables e below (s₁.setTop (entryFrame m #[(.int p1), (.int p2), (.int p3), (.int p4), (.long q5)] maxLocals)) t := fun t k => castTop (ef_rm0 m p1 p2 p3 p4 q5) k
  obtain ⟨cvn, hcvn, lcvn⟩ : ∃ n : Nat, (p1 &&& (255 : Int32)).toInt = n ∧ n ≤ 255 := by have a := c_and p1 255 (by decide); have z : (255 : Int32).toInt = 255 := rfl; exact ⟨(p1 &&& 255).toInt.toNat, by omega, by omega⟩
  have ac1 : ∀ t, Steps p.tables e below (s₁.setTop (mkF m 7 #[.val (.int p1), .val (.int p2), .val (.int p3), .val (.int p4), .val (.long q5), .second, .val (.int (p1 &&& (255 : Int32))), .unset, .unset, .unset, .unset, .unset, .unset, .unset, .unset, .unset, .unset, .unset, .unset] [])) t → Steps p.tables e below (s₁.setTop (entryFrame m #[(.int p1), (.int p2), (.int p3), (.int p4), (.long q5)] maxLocals)) t := fun t k => a0s t (by
      show Steps p.tables e below (s₁.setTop (mkF m 0 #[.val (.int p1), .val (.int p2), .val (.int p3), .val (.int p4), .val (.long q5), .second, .unset, .unset, .unset, .unset, .unset, .unset, .unset, .unset, .unset, .unset, .unset, .unset, .unset] [])) _
      refine XS.iloadN X0.here hx rfl (hb hby at_0) rfl ?_
      show Steps p.tables e below (s₁.setTop (mkF m 1 #[.val (.int p1), .val (.int p2), .val (.int p3), .val (.int p4), .val (.long q5), .second, .unset, .unset, .unset, .unset, .unset, .unset, .unset, .unset, .unset, .unset, .unset, .unset, .unset] [(.int p1)])) _
      refine XS.sipush X0.here hx rfl (hb hby at_1) ?_
      show Steps p.tables e below (s₁.setTop (mkF m 4 #[.val (.int p1), .val (.int p2), .val (.int p3), .val (.int p4), .val (.long q5), .second, .unset, .unset, .unset, .unset, .unset, .unset, .unset, .unset, .unset, .unset, .unset, .unset, .unset] [(.int (255 : Int32)), (.int p1)])) _
      refine XS.iand X0.here hx rfl (hb hby at_4) rfl ?_
      show Steps p.tables e below (s₁.setTop (mkF m 5 #[.val (.int p1), .val (.int p2), .val (.int p3), .val (.int p4), .val (.long q5), .second, .unset, .unset, .unset, .unset, .unset, .unset, .unset, .unset, .unset, .unset, .unset, .unset, .unset] [(.int (p1 &&& (255 : Int32)))])) _
      refine XS.istore X0.here hx rfl (hb hby at_5) rfl (l' := #[.val (.int p1), .val (.int p2), .val (.int p3), .val (.int p4), .val (.long q5), .second, .val (.int (p1 &&& (255 : Int32))), .unset, .unset, .unset, .unset, .unset, .unset, .unset, .unset, .unset, .unset, .unset, .unset]) rfl ?_
      exact k)
  obtain ⟨cv, e_cv⟩ : ∃ z : Int32, z = (p1 &&& (255 : Int32)) := ⟨_, rfl⟩
  rw [← e_cv] at ac1
  rw [← e_cv] at hcvn
  obtain ⟨avn, havn, lavn⟩ : ∃ n : Nat, (p2 &&& (511 : Int32)).toInt = n ∧ n ≤ 511 := by have a := c_and p2 511 (by decide); have z : (511 : Int32).toInt = 511 := rfl; exact ⟨(p2 &&& 511).toInt.toNat, by omega, by omega⟩
  have ac2 : ∀ t, Steps p.tables e below (s₁.setTop (mkF m 14 #[.val (.int p1), .val (.int p2), .val (.int p3), .val (.int p4), .val (.long q5), .second, .val (.int cv), .val (.int (p2 &&& (511 : Int32))), .unset, .unset, .unset, .unset, .unset, .unset, .unset, .unset, .unset, .unset, .unset] [])) t → Steps p.tables e below (s₁.setTop (entryFrame m #[(.int p1), (.int p2), (.int p3), (.int p4), (.long q5)] maxLocals)) t := fun t k => ac1 t (by
      show Steps p.tables e below (s₁.setTop (mkF m 7 #[.val (.int p1), .val (.int p2), .val (.int p3), .val (.int p4), .val (.long q5), .second, .val (.int cv), .unset, .unset, .unset, .unset, .unset, .unset, .unset, .unset, .unset, .unset, .unset, .unset] [])) _
      refine XS.iloadN X0.here hx rfl (hb hby at_7) rfl ?_
      show Steps p.tables e below (s₁.setTop (mkF m 8 #[.val (.int p1), .val (.int p2), .val (.int p3), .val (.int p4), .val (.long q5), .second, .val (.int cv), .unset, .unset, .unset, .unset, .unset, .unset, .unset, .unset, .unset, .unset, .unset, .unset] [(.int p2)])) _
      refine XS.sipush X0.here hx rfl (hb hby at_8) ?_
      show Steps p.tables e below (s₁.setTop (mkF m 11 #[.val (.int p1), .val (.int p2), .val (.int p3), .val (.int p4), .val (.long q5), .second, .val (.int cv), .unset, .unset, .unset, .unset, .unset, .unset, .unset, .unset, .unset, .unset, .unset, .unset] [(.int (511 : Int32)), (.int p2)])) _
      refine XS.iand X0.here hx rfl (hb hby at_11) rfl ?_
      show Steps p.tables e below (s₁.setTop (mkF m 12 #[.val (.int p1), .val (.int p2), .val (.int p3), .val (.int p4), .val (.long q5), .second, .val (.int cv), .unset, .unset, .unset, .unset, .unset, .unset, .unset, .unset, .unset, .unset, .unset, .unset] [(.int (p2 &&& (511 : Int32)))])) _
      refine XS.istore X0.here hx rfl (hb hby at_12) rfl (l' := #[.val (.int p1), .val (.int p2), .val (.int p3), .val (.int p4), .val (.long q5), .second, .val (.int cv), .val (.int (p2 &&& (511 : Int32))), .unset, .unset, .unset, .unset, .unset, .unset, .unset, .unset, .unset, .unset, .unset]) rfl ?_
      exact k)
  obtain ⟨av, e_av⟩ : ∃ z : Int32, z = (p2 &&& (511 : Int32)) := ⟨_, rfl⟩
  rw [← e_av] at ac2
  rw [← e_av] at havn
  obtain ⟨bvn, hbvn, lbvn⟩ : ∃ n : Nat, (p3 &&& (511 : Int32)).toInt = n ∧ n ≤ 511 := by have a := c_and p3 511 (by decide); have z : (511 : Int32).toInt = 511 := rfl; exact ⟨(p3 &&& 511).toInt.toNat, by omega, by omega⟩
  have ac3 : ∀ t, Steps p.tables e below (s₁.setTop (mkF m 21 #[.val (.int p1), .val (.int p2), .val (.int p3), .val (.int p4), .val (.long q5), .second, .val (.int cv), .val (.int av), .val (.int (p3 &&& (511 : Int32))), .unset, .unset, .unset, .unset, .unset, .unset, .unset, .unset, .unset, .unset] [])) t → Steps p.tables e below (s₁.setTop (entryFrame m #[(.int p1), (.int p2), (.int p3), (.int p4), (.long q5)] maxLocals)) t := fun t k => ac2 t (by
      show Steps p.tables e below (s₁.setTop (mkF m 14 #[.val (.int p1), .val (.int p2), .val (.int p3), .val (.int p4), .val (.long q5), .second, .val (.int cv), .val (.int av), .unset, .unset, .unset, .unset, .unset, .unset, .unset, .unset, .unset, .unset, .unset] [])) _
      refine XS.iloadN X0.here hx rfl (hb hby at_14) rfl ?_
      show Steps p.tables e below (s₁.setTop (mkF m 15 #[.val (.int p1), .val (.int p2), .val (.int p3), .val (.int p4), .val (.long q5), .second, .val (.int cv), .val (.int av), .unset, .unset, .unset, .unset, .unset, .unset, .unset, .unset, .unset, .unset, .unset] [(.int p3)])) _
      refine XS.sipush X0.here hx rfl (hb hby at_15) ?_
      show Steps p.tables e below (s₁.setTop (mkF m 18 #[.val (.int p1), .val (.int p2), .val (.int p3), .val (.int p4), .val (.long q5), .second, .val (.int cv), .val (.int av), .unset, .unset, .unset, .unset, .unset, .unset, .unset, .unset, .unset, .unset, .unset] [(.int (511 : Int32)), (.int p3)])) _
      refine XS.iand X0.here hx rfl (hb hby at_18) rfl ?_
      show Steps p.tables e below (s₁.setTop (mkF m 19 #[.val (.int p1), .val (.int p2), .val (.int p3), .val (.int p4), .val (.long q5), .second, .val (.int cv), .val (.int av), .unset, .unset, .unset, .unset, .unset, .unset, .unset, .unset, .unset, .unset, .unset] [(.int (p3 &&& (511 : Int32)))])) _
      refine XS.istore X0.here hx rfl (hb hby at_19) rfl (l' := #[.val (.int p1), .val (.int p2), .val (.int p3), .val (.int p4), .val (.long q5), .second, .val (.int cv), .val (.int av), .val (.int (p3 &&& (511 : Int32))), .unset, .unset, .unset, .unset, .unset, .unset, .unset, .unset, .unset, .unset]) rfl ?_
      exact k)
  obtain ⟨bv, e_bv⟩ : ∃ z : Int32, z = (p3 &&& (511 : Int32)) := ⟨_, rfl⟩
  rw [← e_bv] at ac3
  rw [← e_bv] at hbvn
  have ac4 : ∀ t, Steps p.tables e below (s₁.setTop (mkF m 24 #[.val (.int p1), .val (.int p2), .val (.int p3), .val (.int p4), .val (.long q5), .second, .val (.int cv), .val (.int av), .val (.int bv), .unset, .unset, .unset, .unset, .unset, .unset, .unset, .unset, .unset, .unset] [(.int (p4 &&& (1 : Int32)))])) t → Steps p.tables e below (s₁.setTop (entryFrame m #[(.int p1), (.int p2), (.int p3), (.int p4), (.long q5)] maxLocals)) t := fun t k => ac3 t (by
      show Steps p.tables e below (s₁.setTop (mkF m 21 #[.val (.int p1), .val (.int p2), .val (.int p3), .val (.int p4), .val (.long q5), .second, .val (.int cv), .val (.int av), .val (.int bv), .unset, .unset, .unset, .unset, .unset, .unset, .unset, .unset, .unset, .unset] [])) _
      refine XS.iloadN X0.here hx rfl (hb hby at_21) rfl ?_
      show Steps p.tables e below (s₁.setTop (mkF m 22 #[.val (.int p1), .val (.int p2), .val (.int p3), .val (.int p4), .val (.long q5), .second, .val (.int cv), .val (.int av), .val (.int bv), .unset, .unset, .unset, .unset, .unset, .unset, .unset, .unset, .unset, .unset] [(.int p4)])) _
      refine XS.iconst X0.here hx rfl (hb hby at_22) ?_
      show Steps p.tables e below (s₁.setTop (mkF m 23 #[.val (.int p1), .val (.int p2), .val (.int p3), .val (.int p4), .val (.long q5), .second, .val (.int cv), .val (.int av), .val (.int bv), .unset, .unset, .unset, .unset, .unset, .unset, .unset, .unset, .unset, .unset] [(.int (1 : Int32)), (.int p4)])) _
      refine XS.iand X0.here hx rfl (hb hby at_23) rfl ?_
      exact k)
  have ac5 : ∀ t, Steps p.tables e below (s₁.setTop (mkF m 39 #[.val (.int p1), .val (.int p2), .val (.int p3), .val (.int p4), .val (.long q5), .second, .val (.int cv), .val (.int av), .val (.int bv), .unset, .unset, .unset, .unset, .unset, .unset, .unset, .unset, .unset, .unset] [(.int (own_ob (p4 &&& (1 : Int32)) bv av))])) t → Steps p.tables e below (s₁.setTop (entryFrame m #[(.int p1), (.int p2), (.int p3), (.int p4), (.long q5)] maxLocals)) t := fun t k => ac4 t (by
      by_cases hm : (p4 &&& (1 : Int32)) = (0 : Int32)
      ·
        show Steps p.tables e below (s₁.setTop (mkF m 24 #[.val (.int p1), .val (.int p2), .val (.int p3), .val (.int p4), .val (.long q5), .second, .val (.int cv), .val (.int av), .val (.int bv), .unset, .unset, .unset, .unset, .unset, .unset, .unset, .unset, .unset, .unset] [(.int (p4 &&& (1 : Int32)))])) _
        refine XS.ifYes X0.here hx rfl (pc0 := 24) (pc' := 38) rfl (hb hby at_24) rfl ((if0 _ _).trans (teq hm).1) (by decide) (by decide) ?_
        show Steps p.tables e below (s₁.setTop (mkF m 38 #[.val (.int p1), .val (.int p2), .val (.int p3), .val (.int p4), .val (.long q5), .second, .val (.int cv), .val (.int av), .val (.int bv), .unset, .unset, .unset, .unset, .unset, .unset, .unset, .unset, .unset, .unset] [])) _
        refine XS.iconst X0.here hx rfl (hb hby at_38) ?_
        rw [show own_ob (p4 &&& (1 : Int32)) bv av = 0 from if_pos hm] at k; exact k
      ·
        show Steps p.tables e below (s₁.setTop (mkF m 24 #[.val (.int p1), .val (.int p2), .val (.int p3), .val (.int p4), .val (.long q5), .second, .val (.int cv), .val (.int av), .val (.int bv), .unset, .unset, .unset, .unset, .unset, .unset, .unset, .unset, .unset, .unset] [(.int (p4 &&& (1 : Int32)))])) _
        refine XS.ifNo X0.here hx rfl (hb hby at_24) rfl ((if0 _ _).trans (feq hm).1) ?_
        show Steps p.tables e below (s₁.setTop (mkF m 27 #[.val (.int p1), .val (.int p2), .val (.int p3), .val (.int p4), .val (.long q5), .second, .val (.int cv), .val (.int av), .val (.int bv), .unset, .unset, .unset, .unset, .unset, .unset, .unset, .unset, .unset, .unset] [])) _
        refine XS.iload X0.here hx rfl (hb hby at_27) rfl ?_
        show Steps p.tables e below (s₁.setTop (mkF m 29 #[.val (.int p1), .val (.int p2), .val (.int p3), .val (.int p4), .val (.long q5), .second, .val (.int cv), .val (.int av), .val (.int bv), .unset, .unset, .unset, .unset, .unset, .unset, .unset, .unset, .unset, .unset] [(.int bv)])) _
        refine XS.iload X0.here hx rfl (hb hby at_29) rfl ?_
        by_cases he : bv = av
        ·
          show Steps p.tables e below (s₁.setTop (mkF m 31 #[.val (.int p1), .val (.int p2), .val (.int p3), .val (.int p4), .val (.long q5), .second, .val (.int cv), .val (.int av), .val (.int bv), .unset, .unset, .unset, .unset, .unset, .unset, .unset, .unset, .unset, .unset] [(.int av), (.int bv)])) _
          refine XS.icmpYes X0.here hx rfl (pc0 := 31) (pc' := 38) rfl (hb hby at_31) rfl (teq he).1 (by decide) (by decide) ?_
          show Steps p.tables e below (s₁.setTop (mkF m 38 #[.val (.int p1), .val (.int p2), .val (.int p3), .val (.int p4), .val (.long q5), .second, .val (.int cv), .val (.int av), .val (.int bv), .unset, .unset, .unset, .unset, .unset, .unset, .unset, .unset, .unset, .unset] [])) _
          refine XS.iconst X0.here hx rfl (hb hby at_38) ?_
          rw [show own_ob (p4 &&& (1 : Int32)) bv av = 0 from (if_neg hm).trans (if_pos he)] at k; exact k
        ·
          show Steps p.tables e below (s₁.setTop (mkF m 31 #[.val (.int p1), .val (.int p2), .val (.int p3), .val (.int p4), .val (.long q5), .second, .val (.int cv), .val (.int av), .val (.int bv), .unset, .unset, .unset, .unset, .unset, .unset, .unset, .unset, .unset, .unset] [(.int av), (.int bv)])) _
          refine XS.icmpNo X0.here hx rfl (hb hby at_31) rfl (feq he).1 ?_
          show Steps p.tables e below (s₁.setTop (mkF m 34 #[.val (.int p1), .val (.int p2), .val (.int p3), .val (.int p4), .val (.long q5), .second, .val (.int cv), .val (.int av), .val (.int bv), .unset, .unset, .unset, .unset, .unset, .unset, .unset, .unset, .unset, .unset] [])) _
          refine XS.iconst X0.here hx rfl (hb hby at_34) ?_
          show Steps p.tables e below (s₁.setTop (mkF m 35 #[.val (.int p1), .val (.int p2), .val (.int p3), .val (.int p4), .val (.long q5), .second, .val (.int cv), .val (.int av), .val (.int bv), .unset, .unset, .unset, .unset, .unset, .unset, .unset, .unset, .unset, .unset] [(.int (1 : Int32))])) _
          refine XS.goto X0.here hx rfl (pc0 := 35) (pc' := 39) rfl (hb hby at_35) (by decide) (by decide) ?_
          rw [show own_ob (p4 &&& (1 : Int32)) bv av = 1 from (if_neg hm).trans (if_neg he)] at k; exact k)
  have hob : ¬ own_ob (p4 &&& (1 : Int32)) bv av = 0 → ¬ bv = av := fun q e => q (by unfold own_ob; by_cases h : (p4 &&& (1 : Int32)) = 0; exact if_pos h; exact (if_neg h).trans (if_pos e))
  obtain ⟨ob, e_ob⟩ : ∃ z : Int32, z = (own_ob (p4 &&& (1 : Int32)) bv av) := ⟨_, rfl⟩
  rw [← e_ob] at ac5
  rw [← e_ob] at hob
  have ac6 : ∀ t, Steps p.tables e below (s₁.setTop (mkF m 45 #[.val (.int p1), .val (.int p2), .val (.int p3), .val (.int p4), .val (.long q5), .second, .val (.int cv), .val (.int av), .val (.int bv), .val (.int ob), .unset, .unset, .unset, .unset, .unset, .unset, .unset, .unset, .unset] [(.int (p4 &&& (16 : Int32)))])) t → Steps p.tables e below (s₁.setTop (entryFrame m #[(.int p1), (.int p2), (.int p3), (.int p4), (.long q5)] maxLocals)) t := fun t k => ac5 t (by
      show Steps p.tables e below (s₁.setTop (mkF m 39 #[.val (.int p1), .val (.int p2), .val (.int p3), .val (.int p4), .val (.long q5), .second, .val (.int cv), .val (.int av), .val (.int bv), .unset, .unset, .unset, .unset, .unset, .unset, .unset, .unset, .unset, .unset] [(.int ob)])) _
      refine XS.istore X0.here hx rfl (hb hby at_39) rfl (l' := #[.val (.int p1), .val (.int p2), .val (.int p3), .val (.int p4), .val (.long q5), .second, .val (.int cv), .val (.int av), .val (.int bv), .val (.int ob), .unset, .unset, .unset, .unset, .unset, .unset, .unset, .unset, .unset]) rfl ?_
      show Steps p.tables e below (s₁.setTop (mkF m 41 #[.val (.int p1), .val (.int p2), .val (.int p3), .val (.int p4), .val (.long q5), .second, .val (.int cv), .val (.int av), .val (.int bv), .val (.int ob), .unset, .unset, .unset, .unset, .unset, .unset, .unset, .unset, .unset] [])) _
      refine XS.iloadN X0.here hx rfl (hb hby at_41) rfl ?_
      show Steps p.tables e below (s₁.setTop (mkF m 42 #[.val (.int p1), .val (.int p2), .val (.int p3), .val (.int p4), .val (.long q5), .second, .val (.int cv), .val (.int av), .val (.int bv), .val (.int ob), .unset, .unset, .unset, .unset, .unset, .unset, .unset, .unset, .unset] [(.int p4)])) _
      refine XS.bipush X0.here hx rfl (hb hby at_42) ?_
      show Steps p.tables e below (s₁.setTop (mkF m 44 #[.val (.int p1), .val (.int p2), .val (.int p3), .val (.int p4), .val (.long q5), .second, .val (.int cv), .val (.int av), .val (.int bv), .val (.int ob), .unset, .unset, .unset, .unset, .unset, .unset, .unset, .unset, .unset] [(.int (16 : Int32)), (.int p4)])) _
      refine XS.iand X0.here hx rfl (hb hby at_44) rfl ?_
      exact k)
  have ac7 : ∀ t, Steps p.tables e below (s₁.setTop (mkF m 53 #[.val (.int p1), .val (.int p2), .val (.int p3), .val (.int p4), .val (.long q5), .second, .val (.int cv), .val (.int av), .val (.int bv), .val (.int ob), .unset, .unset, .unset, .unset, .unset, .unset, .unset, .unset, .unset] [(.int (own_flag (p4 &&& (16 : Int32))))])) t → Steps p.tables e below (s₁.setTop (entryFrame m #[(.int p1), (.int p2), (.int p3), (.int p4), (.long q5)] maxLocals)) t := fun t k => ac6 t (by
      by_cases hm : (p4 &&& (16 : Int32)) = (0 : Int32)
      ·
        show Steps p.tables e below (s₁.setTop (mkF m 45 #[.val (.int p1), .val (.int p2), .val (.int p3), .val (.int p4), .val (.long q5), .second, .val (.int cv), .val (.int av), .val (.int bv), .val (.int ob), .unset, .unset, .unset, .unset, .unset, .unset, .unset, .unset, .unset] [(.int (p4 &&& (16 : Int32)))])) _
        refine XS.ifYes X0.here hx rfl (pc0 := 45) (pc' := 52) rfl (hb hby at_45) rfl ((if0 _ _).trans (teq hm).1) (by decide) (by decide) ?_
        show Steps p.tables e below (s₁.setTop (mkF m 52 #[.val (.int p1), .val (.int p2), .val (.int p3), .val (.int p4), .val (.long q5), .second, .val (.int cv), .val (.int av), .val (.int bv), .val (.int ob), .unset, .unset, .unset, .unset, .unset, .unset, .unset, .unset, .unset] [])) _
        refine XS.iconst X0.here hx rfl (hb hby at_52) ?_
        rw [own_flag_0 hm] at k; exact k
      ·
        show Steps p.tables e below (s₁.setTop (mkF m 45 #[.val (.int p1), .val (.int p2), .val (.int p3), .val (.int p4), .val (.long q5), .second, .val (.int cv), .val (.int av), .val (.int bv), .val (.int ob), .unset, .unset, .unset, .unset, .unset, .unset, .unset, .unset, .unset] [(.int (p4 &&& (16 : Int32)))])) _
        refine XS.ifNo X0.here hx rfl (hb hby at_45) rfl ((if0 _ _).trans (feq hm).1) ?_
        show Steps p.tables e below (s₁.setTop (mkF m 48 #[.val (.int p1), .val (.int p2), .val (.int p3), .val (.int p4), .val (.long q5), .second, .val (.int cv), .val (.int av), .val (.int bv), .val (.int ob), .unset, .unset, .unset, .unset, .unset, .unset, .unset, .unset, .unset] [])) _
        refine XS.iconst X0.here hx rfl (hb hby at_48) ?_
        show Steps p.tables e below (s₁.setTop (mkF m 49 #[.val (.int p1), .val (.int p2), .val (.int p3), .val (.int p4), .val (.long q5), .second, .val (.int cv), .val (.int av), .val (.int bv), .val (.int ob), .unset, .unset, .unset, .unset, .unset, .unset, .unset, .unset, .unset] [(.int (1 : Int32))])) _
        refine XS.goto X0.here hx rfl (pc0 := 49) (pc' := 53) rfl (hb hby at_49) (by decide) (by decide) ?_
        rw [own_flag_1 hm] at k; exact k)
  obtain ⟨ra, e_ra⟩ : ∃ z : Int32, z = (own_flag (p4 &&& (16 : Int32))) := ⟨_, rfl⟩
  rw [← e_ra] at ac7
  have ac8 : ∀ t, Steps p.tables e below (s₁.setTop (mkF m 63 #[.val (.int p1), .val (.int p2), .val (.int p3), .val (.int p4), .val (.long q5), .second, .val (.int cv), .val (.int av), .val (.int bv), .val (.int ob), .val (.int ra), .val (.int (((p4.toUInt32 >>> ((1 : Int32) &&& 31).toUInt32).toInt32) &&& (7 : Int32))), .unset, .unset, .unset, .unset, .unset, .unset, .unset] [])) t → Steps p.tables e below (s₁.setTop (entryFrame m #[(.int p1), (.int p2), (.int p3), (.int p4), (.long q5)] maxLocals)) t := fun t k => ac7 t (by
      show Steps p.tables e below (s₁.setTop (mkF m 53 #[.val (.int p1), .val (.int p2), .val (.int p3), .val (.int p4), .val (.long q5), .second, .val (.int cv), .val (.int av), .val (.int bv), .val (.int ob), .unset, .unset, .unset, .unset, .unset, .unset, .unset, .unset, .unset] [(.int ra)])) _
      refine XS.istore X0.here hx rfl (hb hby at_53) rfl (l' := #[.val (.int p1), .val (.int p2), .val (.int p3), .val (.int p4), .val (.long q5), .second, .val (.int cv), .val (.int av), .val (.int bv), .val (.int ob), .val (.int ra), .unset, .unset, .unset, .unset, .unset, .unset, .unset, .unset]) rfl ?_
      show Steps p.tables e below (s₁.setTop (mkF m 55 #[.val (.int p1), .val (.int p2), .val (.int p3), .val (.int p4), .val (.long q5), .second, .val (.int cv), .val (.int av), .val (.int bv), .val (.int ob), .val (.int ra), .unset, .unset, .unset, .unset, .unset, .unset, .unset, .unset] [])) _
      refine XS.iloadN X0.here hx rfl (hb hby at_55) rfl ?_
      show Steps p.tables e below (s₁.setTop (mkF m 56 #[.val (.int p1), .val (.int p2), .val (.int p3), .val (.int p4), .val (.long q5), .second, .val (.int cv), .val (.int av), .val (.int bv), .val (.int ob), .val (.int ra), .unset, .unset, .unset, .unset, .unset, .unset, .unset, .unset] [(.int p4)])) _
      refine XS.iconst X0.here hx rfl (hb hby at_56) ?_
      show Steps p.tables e below (s₁.setTop (mkF m 57 #[.val (.int p1), .val (.int p2), .val (.int p3), .val (.int p4), .val (.long q5), .second, .val (.int cv), .val (.int av), .val (.int bv), .val (.int ob), .val (.int ra), .unset, .unset, .unset, .unset, .unset, .unset, .unset, .unset] [(.int (1 : Int32)), (.int p4)])) _
      refine XS.iushr X0.here hx rfl (hb hby at_57) rfl ?_
      show Steps p.tables e below (s₁.setTop (mkF m 58 #[.val (.int p1), .val (.int p2), .val (.int p3), .val (.int p4), .val (.long q5), .second, .val (.int cv), .val (.int av), .val (.int bv), .val (.int ob), .val (.int ra), .unset, .unset, .unset, .unset, .unset, .unset, .unset, .unset] [(.int ((p4.toUInt32 >>> ((1 : Int32) &&& 31).toUInt32).toInt32))])) _
      refine XS.bipush X0.here hx rfl (hb hby at_58) ?_
      show Steps p.tables e below (s₁.setTop (mkF m 60 #[.val (.int p1), .val (.int p2), .val (.int p3), .val (.int p4), .val (.long q5), .second, .val (.int cv), .val (.int av), .val (.int bv), .val (.int ob), .val (.int ra), .unset, .unset, .unset, .unset, .unset, .unset, .unset, .unset] [(.int (7 : Int32)), (.int ((p4.toUInt32 >>> ((1 : Int32) &&& 31).toUInt32).toInt32))])) _
      refine XS.iand X0.here hx rfl (hb hby at_60) rfl ?_
      show Steps p.tables e below (s₁.setTop (mkF m 61 #[.val (.int p1), .val (.int p2), .val (.int p3), .val (.int p4), .val (.long q5), .second, .val (.int cv), .val (.int av), .val (.int bv), .val (.int ob), .val (.int ra), .unset, .unset, .unset, .unset, .unset, .unset, .unset, .unset] [(.int (((p4.toUInt32 >>> ((1 : Int32) &&& 31).toUInt32).toInt32) &&& (7 : Int32)))])) _
      refine XS.istore X0.here hx rfl (hb hby at_61) rfl (l' := #[.val (.int p1), .val (.int p2), .val (.int p3), .val (.int p4), .val (.long q5), .second, .val (.int cv), .val (.int av), .val (.int bv), .val (.int ob), .val (.int ra), .val (.int (((p4.toUInt32 >>> ((1 : Int32) &&& 31).toUInt32).toInt32) &&& (7 : Int32))), .unset, .unset, .unset, .unset, .unset, .unset, .unset]) rfl ?_
      exact k)
  obtain ⟨md, e_md⟩ : ∃ z : Int32, z = (((p4.toUInt32 >>> ((1 : Int32) &&& 31).toUInt32).toInt32) &&& (7 : Int32)) := ⟨_, rfl⟩
  rw [← e_md] at ac8
  have ac9 : ∀ t, Steps p.tables e below (s₁.setTop (mkF m 66 #[.val (.int p1), .val (.int p2), .val (.int p3), .val (.int p4), .val (.long q5), .second, .val (.int cv), .val (.int av), .val (.int bv), .val (.int ob), .val (.int ra), .val (.int md), .unset, .unset, .unset, .unset, .unset, .unset, .unset] [(.int (2 : Int32)), (.int md)])) t → Steps p.tables e below (s₁.setTop (entryFrame m #[(.int p1), (.int p2), (.int p3), (.int p4), (.long q5)] maxLocals)) t := fun t k => ac8 t (by
      show Steps p.tables e below (s₁.setTop (mkF m 63 #[.val (.int p1), .val (.int p2), .val (.int p3), .val (.int p4), .val (.long q5), .second, .val (.int cv), .val (.int av), .val (.int bv), .val (.int ob), .val (.int ra), .val (.int md), .unset, .unset, .unset, .unset, .unset, .unset, .unset] [])) _
      refine XS.iload X0.here hx rfl (hb hby at_63) rfl ?_
      show Steps p.tables e below (s₁.setTop (mkF m 65 #[.val (.int p1), .val (.int p2), .val (.int p3), .val (.int p4), .val (.long q5), .second, .val (.int cv), .val (.int av), .val (.int bv), .val (.int ob), .val (.int ra), .val (.int md), .unset, .unset, .unset, .unset, .unset, .unset, .unset] [(.int md)])) _
      refine XS.iconst X0.here hx rfl (hb hby at_65) ?_
      exact k)
  have ac10 : ∀ t, Steps p.tables e below (s₁.setTop (mkF m 181 #[.val (.int p1), .val (.int p2), .val (.int p3), .val (.int p4), .val (.long q5), .second, .val (.int cv), .val (.int av), .val (.int bv), .val (.int ob), .val (.int ra), .val (.int md), .val (.long (own_q md av bv q5)), .second, .unset, .unset, .unset, .unset, .unset] [])) t → Steps p.tables e below (s₁.setTop (entryFrame m #[(.int p1), (.int p2), (.int p3), (.int p4), (.long q5)] maxLocals)) t := fun t k => ac9 t (by
      by_cases m2 : md = (2 : Int32)
      ·
        show Steps p.tables e below (s₁.setTop (mkF m 66 #[.val (.int p1), .val (.int p2), .val (.int p3), .val (.int p4), .val (.long q5), .second, .val (.int cv), .val (.int av), .val (.int bv), .val (.int ob), .val (.int ra), .val (.int md), .unset, .unset, .unset, .unset, .unset, .unset, .unset] [(.int (2 : Int32)), (.int md)])) _
        refine XS.icmpNo X0.here hx rfl (hb hby at_66) rfl (teq m2).2 ?_
        show Steps p.tables e below (s₁.setTop (mkF m 69 #[.val (.int p1), .val (.int p2), .val (.int p3), .val (.int p4), .val (.long q5), .second, .val (.int cv), .val (.int av), .val (.int bv), .val (.int ob), .val (.int ra), .val (.int md), .unset, .unset, .unset, .unset, .unset, .unset, .unset] [])) _
        refine XS.iload X0.here hx rfl (hb hby at_69) rfl ?_
        show Steps p.tables e below (s₁.setTop (mkF m 71 #[.val (.int p1), .val (.int p2), .val (.int p3), .val (.int p4), .val (.long q5), .second, .val (.int cv), .val (.int av), .val (.int bv), .val (.int ob), .val (.int ra), .val (.int md), .unset, .unset, .unset, .unset, .unset, .unset, .unset] [(.int av)])) _
        refine XS.i2l X0.here hx rfl (hb hby at_71) rfl ?_
        show Steps p.tables e below (s₁.setTop (mkF m 72 #[.val (.int p1), .val (.int p2), .val (.int p3), .val (.int p4), .val (.long q5), .second, .val (.int cv), .val (.int av), .val (.int bv), .val (.int ob), .val (.int ra), .val (.int md), .unset, .unset, .unset, .unset, .unset, .unset, .unset] [(.long (av.toInt64))])) _
        refine XS.lstore X0.here hx rfl (hb hby at_72) rfl (l' := #[.val (.int p1), .val (.int p2), .val (.int p3), .val (.int p4), .val (.long q5), .second, .val (.int cv), .val (.int av), .val (.int bv), .val (.int ob), .val (.int ra), .val (.int md), .val (.long (av.toInt64)), .second, .unset, .unset, .unset, .unset, .unset]) rfl ?_
        show Steps p.tables e below (s₁.setTop (mkF m 74 #[.val (.int p1), .val (.int p2), .val (.int p3), .val (.int p4), .val (.long q5), .second, .val (.int cv), .val (.int av), .val (.int bv), .val (.int ob), .val (.int ra), .val (.int md), .val (.long (av.toInt64)), .second, .unset, .unset, .unset, .unset, .unset] [])) _
        refine XS.goto X0.here hx rfl (pc0 := 74) (pc' := 181) rfl (hb hby at_74) (by decide) (by decide) ?_
        rw [show own_q md av bv q5 = _ from (if_pos m2)] at k; exact k
      ·
        show Steps p.tables e below (s₁.setTop (mkF m 66 #[.val (.int p1), .val (.int p2), .val (.int p3), .val (.int p4), .val (.long q5), .second, .val (.int cv), .val (.int av), .val (.int bv), .val (.int ob), .val (.int ra), .val (.int md), .unset, .unset, .unset, .unset, .unset, .unset, .unset] [(.int (2 : Int32)), (.int md)])) _
        refine XS.icmpYes X0.here hx rfl (pc0 := 66) (pc' := 77) rfl (hb hby at_66) rfl (feq m2).2 (by decide) (by decide) ?_
        show Steps p.tables e below (s₁.setTop (mkF m 77 #[.val (.int p1), .val (.int p2), .val (.int p3), .val (.int p4), .val (.long q5), .second, .val (.int cv), .val (.int av), .val (.int bv), .val (.int ob), .val (.int ra), .val (.int md), .unset, .unset, .unset, .unset, .unset, .unset, .unset] [])) _
        refine XS.iload X0.here hx rfl (hb hby at_77) rfl ?_
        show Steps p.tables e below (s₁.setTop (mkF m 79 #[.val (.int p1), .val (.int p2), .val (.int p3), .val (.int p4), .val (.long q5), .second, .val (.int cv), .val (.int av), .val (.int bv), .val (.int ob), .val (.int ra), .val (.int md), .unset, .unset, .unset, .unset, .unset, .unset, .unset] [(.int md)])) _
        refine XS.iconst X0.here hx rfl (hb hby at_79) ?_
        by_cases m3 : md = (3 : Int32)
        ·
          show Steps p.tables e below (s₁.setTop (mkF m 80 #[.val (.int p1), .val (.int p2), .val (.int p3), .val (.int p4), .val (.long q5), .second, .val (.int cv), .val (.int av), .val (.int bv), .val (.int ob), .val (.int ra), .val (.int md), .unset, .unset, .unset, .unset, .unset, .unset, .unset] [(.int (3 : Int32)), (.int md)])) _
          refine XS.icmpNo X0.here hx rfl (hb hby at_80) rfl (teq m3).2 ?_
          show Steps p.tables e below (s₁.setTop (mkF m 83 #[.val (.int p1), .val (.int p2), .val (.int p3), .val (.int p4), .val (.long q5), .second, .val (.int cv), .val (.int av), .val (.int bv), .val (.int ob), .val (.int ra), .val (.int md), .unset, .unset, .unset, .unset, .unset, .unset, .unset] [])) _
          refine XS.iload X0.here hx rfl (hb hby at_83) rfl ?_
          show Steps p.tables e below (s₁.setTop (mkF m 85 #[.val (.int p1), .val (.int p2), .val (.int p3), .val (.int p4), .val (.long q5), .second, .val (.int cv), .val (.int av), .val (.int bv), .val (.int ob), .val (.int ra), .val (.int md), .unset, .unset, .unset, .unset, .unset, .unset, .unset] [(.int bv)])) _
          refine XS.i2l X0.here hx rfl (hb hby at_85) rfl ?_
          show Steps p.tables e below (s₁.setTop (mkF m 86 #[.val (.int p1), .val (.int p2), .val (.int p3), .val (.int p4), .val (.long q5), .second, .val (.int cv), .val (.int av), .val (.int bv), .val (.int ob), .val (.int ra), .val (.int md), .unset, .unset, .unset, .unset, .unset, .unset, .unset] [(.long (bv.toInt64))])) _
          refine XS.lstore X0.here hx rfl (hb hby at_86) rfl (l' := #[.val (.int p1), .val (.int p2), .val (.int p3), .val (.int p4), .val (.long q5), .second, .val (.int cv), .val (.int av), .val (.int bv), .val (.int ob), .val (.int ra), .val (.int md), .val (.long (bv.toInt64)), .second, .unset, .unset, .unset, .unset, .unset]) rfl ?_
          show Steps p.tables e below (s₁.setTop (mkF m 88 #[.val (.int p1), .val (.int p2), .val (.int p3), .val (.int p4), .val (.long q5), .second, .val (.int cv), .val (.int av), .val (.int bv), .val (.int ob), .val (.int ra), .val (.int md), .val (.long (bv.toInt64)), .second, .unset, .unset, .unset, .unset, .unset] [])) _
          refine XS.goto X0.here hx rfl (pc0 := 88) (pc' := 181) rfl (hb hby at_88) (by decide) (by decide) ?_
          rw [show own_q md av bv q5 = _ from ((if_neg m2).trans (if_pos m3))] at k; exact k
        ·
          show Steps p.tables e below (s₁.setTop (mkF m 80 #[.val (.int p1), .val (.int p2), .val (.int p3), .val (.int p4), .val (.long q5), .second, .val (.int cv), .val (.int av), .val (.int bv), .val (.int ob), .val (.int ra), .val (.int md), .unset, .unset, .unset, .unset, .unset, .unset, .unset] [(.int (3 : Int32)), (.int md)])) _
          refine XS.icmpYes X0.here hx rfl (pc0 := 80) (pc' := 91) rfl (hb hby at_80) rfl (feq m3).2 (by decide) (by decide) ?_
          show Steps p.tables e below (s₁.setTop (mkF m 91 #[.val (.int p1), .val (.int p2), .val (.int p3), .val (.int p4), .val (.long q5), .second, .val (.int cv), .val (.int av), .val (.int bv), .val (.int ob), .val (.int ra), .val (.int md), .unset, .unset, .unset, .unset, .unset, .unset, .unset] [])) _
          refine XS.iload X0.here hx rfl (hb hby at_91) rfl ?_
          show Steps p.tables e below (s₁.setTop (mkF m 93 #[.val (.int p1), .val (.int p2), .val (.int p3), .val (.int p4), .val (.long q5), .second, .val (.int cv), .val (.int av), .val (.int bv), .val (.int ob), .val (.int ra), .val (.int md), .unset, .unset, .unset, .unset, .unset, .unset, .unset] [(.int md)])) _
          refine XS.iconst X0.here hx rfl (hb hby at_93) ?_
          by_cases m4 : md = (4 : Int32)
          ·
            show Steps p.tables e below (s₁.setTop (mkF m 94 #[.val (.int p1), .val (.int p2), .val (.int p3), .val (.int p4), .val (.long q5), .second, .val (.int cv), .val (.int av), .val (.int bv), .val (.int ob), .val (.int ra), .val (.int md), .unset, .unset, .unset, .unset, .unset, .unset, .unset] [(.int (4 : Int32)), (.int md)])) _
            refine XS.icmpNo X0.here hx rfl (hb hby at_94) rfl (teq m4).2 ?_
            show Steps p.tables e below (s₁.setTop (mkF m 97 #[.val (.int p1), .val (.int p2), .val (.int p3), .val (.int p4), .val (.long q5), .second, .val (.int cv), .val (.int av), .val (.int bv), .val (.int ob), .val (.int ra), .val (.int md), .unset, .unset, .unset, .unset, .unset, .unset, .unset] [])) _
            refine XS.lload X0.here hx rfl (hb hby at_97) rfl ?_
            show Steps p.tables e below (s₁.setTop (mkF m 99 #[.val (.int p1), .val (.int p2), .val (.int p3), .val (.int p4), .val (.long q5), .second, .val (.int cv), .val (.int av), .val (.int bv), .val (.int ob), .val (.int ra), .val (.int md), .unset, .unset, .unset, .unset, .unset, .unset, .unset] [(.long q5)])) _
            refine X0.ldc2Long hx hown (mvT hZ (hw _ (List.mem_of_getElem? (i := 80) rfl))) (g := (mkF m 99 #[.val (.int p1), .val (.int p2), .val (.int p3), .val (.int p4), .val (.long q5), .second, .val (.int cv), .val (.int av), .val (.int bv), .val (.int ob), .val (.int ra), .val (.int md), .unset, .unset, .unset, .unset, .unset, .unset, .unset] [(.long q5)])) rfl (hb hby at_99) _ ?_
            show Steps p.tables e below (s₁.setTop (mkF m 102 #[.val (.int p1), .val (.int p2), .val (.int p3), .val (.int p4), .val (.long q5), .second, .val (.int cv), .val (.int av), .val (.int bv), .val (.int ob), .val (.int ra), .val (.int md), .unset, .unset, .unset, .unset, .unset, .unset, .unset] [(.long (1023 : Int64)), (.long q5)])) _
            refine XS.land X0.here hx rfl (hb hby at_102) rfl ?_
            show Steps p.tables e below (s₁.setTop (mkF m 103 #[.val (.int p1), .val (.int p2), .val (.int p3), .val (.int p4), .val (.long q5), .second, .val (.int cv), .val (.int av), .val (.int bv), .val (.int ob), .val (.int ra), .val (.int md), .unset, .unset, .unset, .unset, .unset, .unset, .unset] [(.long (q5 &&& (1023 : Int64)))])) _
            refine X0.ldc2Long hx hown (mvT hZ (hw _ (List.mem_of_getElem? (i := 81) rfl))) (g := (mkF m 103 #[.val (.int p1), .val (.int p2), .val (.int p3), .val (.int p4), .val (.long q5), .second, .val (.int cv), .val (.int av), .val (.int bv), .val (.int ob), .val (.int ra), .val (.int md), .unset, .unset, .unset, .unset, .unset, .unset, .unset] [(.long (q5 &&& (1023 : Int64)))])) rfl (hb hby at_103) _ ?_
            show Steps p.tables e below (s₁.setTop (mkF m 106 #[.val (.int p1), .val (.int p2), .val (.int p3), .val (.int p4), .val (.long q5), .second, .val (.int cv), .val (.int av), .val (.int bv), .val (.int ob), .val (.int ra), .val (.int md), .unset, .unset, .unset, .unset, .unset, .unset, .unset] [(.long (4 : Int64)), (.long (q5 &&& (1023 : Int64)))])) _
            refine XS.lsub X0.here hx rfl (hb hby at_106) rfl ?_
            show Steps p.tables e below (s₁.setTop (mkF m 107 #[.val (.int p1), .val (.int p2), .val (.int p3), .val (.int p4), .val (.long q5), .second, .val (.int cv), .val (.int av), .val (.int bv), .val (.int ob), .val (.int ra), .val (.int md), .unset, .unset, .unset, .unset, .unset, .unset, .unset] [(.long ((q5 &&& (1023 : Int64)) - (4 : Int64)))])) _
            refine XS.lstore X0.here hx rfl (hb hby at_107) rfl (l' := #[.val (.int p1), .val (.int p2), .val (.int p3), .val (.int p4), .val (.long q5), .second, .val (.int cv), .val (.int av), .val (.int bv), .val (.int ob), .val (.int ra), .val (.int md), .val (.long ((q5 &&& (1023 : Int64)) - (4 : Int64))), .second, .unset, .unset, .unset, .unset, .unset]) rfl ?_
            show Steps p.tables e below (s₁.setTop (mkF m 109 #[.val (.int p1), .val (.int p2), .val (.int p3), .val (.int p4), .val (.long q5), .second, .val (.int cv), .val (.int av), .val (.int bv), .val (.int ob), .val (.int ra), .val (.int md), .val (.long ((q5 &&& (1023 : Int64)) - (4 : Int64))), .second, .unset, .unset, .unset, .unset, .unset] [])) _
            refine XS.goto X0.here hx rfl (pc0 := 109) (pc' := 181) rfl (hb hby at_109) (by decide) (by decide) ?_
            rw [show own_q md av bv q5 = _ from ((if_neg m2).trans ((if_neg m3).trans (if_pos m4)))] at k; exact k
          ·
            show Steps p.tables e below (s₁.setTop (mkF m 94 #[.val (.int p1), .val (.int p2), .val (.int p3), .val (.int p4), .val (.long q5), .second, .val (.int cv), .val (.int av), .val (.int bv), .val (.int ob), .val (.int ra), .val (.int md), .unset, .unset, .unset, .unset, .unset, .unset, .unset] [(.int (4 : Int32)), (.int md)])) _
            refine XS.icmpYes X0.here hx rfl (pc0 := 94) (pc' := 112) rfl (hb hby at_94) rfl (feq m4).2 (by decide) (by decide) ?_
            show Steps p.tables e below (s₁.setTop (mkF m 112 #[.val (.int p1), .val (.int p2), .val (.int p3), .val (.int p4), .val (.long q5), .second, .val (.int cv), .val (.int av), .val (.int bv), .val (.int ob), .val (.int ra), .val (.int md), .unset, .unset, .unset, .unset, .unset, .unset, .unset] [])) _
            refine XS.iload X0.here hx rfl (hb hby at_112) rfl ?_
            show Steps p.tables e below (s₁.setTop (mkF m 114 #[.val (.int p1), .val (.int p2), .val (.int p3), .val (.int p4), .val (.long q5), .second, .val (.int cv), .val (.int av), .val (.int bv), .val (.int ob), .val (.int ra), .val (.int md), .unset, .unset, .unset, .unset, .unset, .unset, .unset] [(.int md)])) _
            refine XS.iconst X0.here hx rfl (hb hby at_114) ?_
            by_cases m5 : md = (5 : Int32)
            ·
              show Steps p.tables e below (s₁.setTop (mkF m 115 #[.val (.int p1), .val (.int p2), .val (.int p3), .val (.int p4), .val (.long q5), .second, .val (.int cv), .val (.int av), .val (.int bv), .val (.int ob), .val (.int ra), .val (.int md), .unset, .unset, .unset, .unset, .unset, .unset, .unset] [(.int (5 : Int32)), (.int md)])) _
              refine XS.icmpNo X0.here hx rfl (hb hby at_115) rfl (teq m5).2 ?_
              show Steps p.tables e below (s₁.setTop (mkF m 118 #[.val (.int p1), .val (.int p2), .val (.int p3), .val (.int p4), .val (.long q5), .second, .val (.int cv), .val (.int av), .val (.int bv), .val (.int ob), .val (.int ra), .val (.int md), .unset, .unset, .unset, .unset, .unset, .unset, .unset] [])) _
              refine X0.ldc2Long hx hown (mvT hZ (hw _ (List.mem_of_getElem? (i := 91) rfl))) (g := (mkF m 118 #[.val (.int p1), .val (.int p2), .val (.int p3), .val (.int p4), .val (.long q5), .second, .val (.int cv), .val (.int av), .val (.int bv), .val (.int ob), .val (.int ra), .val (.int md), .unset, .unset, .unset, .unset, .unset, .unset, .unset] [])) rfl (hb hby at_118) _ ?_
              show Steps p.tables e below (s₁.setTop (mkF m 121 #[.val (.int p1), .val (.int p2), .val (.int p3), .val (.int p4), .val (.long q5), .second, .val (.int cv), .val (.int av), .val (.int bv), .val (.int ob), .val (.int ra), .val (.int md), .unset, .unset, .unset, .unset, .unset, .unset, .unset] [(.long (2147483644 : Int64))])) _
              refine XS.lload X0.here hx rfl (hb hby at_121) rfl ?_
              show Steps p.tables e below (s₁.setTop (mkF m 123 #[.val (.int p1), .val (.int p2), .val (.int p3), .val (.int p4), .val (.long q5), .second, .val (.int cv), .val (.int av), .val (.int bv), .val (.int ob), .val (.int ra), .val (.int md), .unset, .unset, .unset, .unset, .unset, .unset, .unset] [(.long q5), (.long (2147483644 : Int64))])) _
              refine X0.ldc2Long hx hown (mvT hZ (hw _ (List.mem_of_getElem? (i := 92) rfl))) (g := (mkF m 123 #[.val (.int p1), .val (.int p2), .val (.int p3), .val (.int p4), .val (.long q5), .second, .val (.int cv), .val (.int av), .val (.int bv), .val (.int ob), .val (.int ra), .val (.int md), .unset, .unset, .unset, .unset, .unset, .unset, .unset] [(.long q5), (.long (2147483644 : Int64))])) rfl (hb hby at_123) _ ?_
              show Steps p.tables e below (s₁.setTop (mkF m 126 #[.val (.int p1), .val (.int p2), .val (.int p3), .val (.int p4), .val (.long q5), .second, .val (.int cv), .val (.int av), .val (.int bv), .val (.int ob), .val (.int ra), .val (.int md), .unset, .unset, .unset, .unset, .unset, .unset, .unset] [(.long (7 : Int64)), (.long q5), (.long (2147483644 : Int64))])) _
              refine XS.land X0.here hx rfl (hb hby at_126) rfl ?_
              show Steps p.tables e below (s₁.setTop (mkF m 127 #[.val (.int p1), .val (.int p2), .val (.int p3), .val (.int p4), .val (.long q5), .second, .val (.int cv), .val (.int av), .val (.int bv), .val (.int ob), .val (.int ra), .val (.int md), .unset, .unset, .unset, .unset, .unset, .unset, .unset] [(.long (q5 &&& (7 : Int64))), (.long (2147483644 : Int64))])) _
              refine XS.ladd X0.here hx rfl (hb hby at_127) rfl ?_
              show Steps p.tables e below (s₁.setTop (mkF m 128 #[.val (.int p1), .val (.int p2), .val (.int p3), .val (.int p4), .val (.long q5), .second, .val (.int cv), .val (.int av), .val (.int bv), .val (.int ob), .val (.int ra), .val (.int md), .unset, .unset, .unset, .unset, .unset, .unset, .unset] [(.long ((2147483644 : Int64) + (q5 &&& (7 : Int64))))])) _
              refine XS.lstore X0.here hx rfl (hb hby at_128) rfl (l' := #[.val (.int p1), .val (.int p2), .val (.int p3), .val (.int p4), .val (.long q5), .second, .val (.int cv), .val (.int av), .val (.int bv), .val (.int ob), .val (.int ra), .val (.int md), .val (.long ((2147483644 : Int64) + (q5 &&& (7 : Int64)))), .second, .unset, .unset, .unset, .unset, .unset]) rfl ?_
              show Steps p.tables e below (s₁.setTop (mkF m 130 #[.val (.int p1), .val (.int p2), .val (.int p3), .val (.int p4), .val (.long q5), .second, .val (.int cv), .val (.int av), .val (.int bv), .val (.int ob), .val (.int ra), .val (.int md), .val (.long ((2147483644 : Int64) + (q5 &&& (7 : Int64)))), .second, .unset, .unset, .unset, .unset, .unset] [])) _
              refine XS.goto X0.here hx rfl (pc0 := 130) (pc' := 181) rfl (hb hby at_130) (by decide) (by decide) ?_
              rw [show own_q md av bv q5 = _ from ((if_neg m2).trans ((if_neg m3).trans ((if_neg m4).trans (if_pos m5))))] at k; exact k
            ·
              show Steps p.tables e below (s₁.setTop (mkF m 115 #[.val (.int p1), .val (.int p2), .val (.int p3), .val (.int p4), .val (.long q5), .second, .val (.int cv), .val (.int av), .val (.int bv), .val (.int ob), .val (.int ra), .val (.int md), .unset, .unset, .unset, .unset, .unset, .unset, .unset] [(.int (5 : Int32)), (.int md)])) _
              refine XS.icmpYes X0.here hx rfl (pc0 := 115) (pc' := 133) rfl (hb hby at_115) rfl (feq m5).2 (by decide) (by decide) ?_
              show Steps p.tables e below (s₁.setTop (mkF m 133 #[.val (.int p1), .val (.int p2), .val (.int p3), .val (.int p4), .val (.long q5), .second, .val (.int cv), .val (.int av), .val (.int bv), .val (.int ob), .val (.int ra), .val (.int md), .unset, .unset, .unset, .unset, .unset, .unset, .unset] [])) _
              refine XS.iload X0.here hx rfl (hb hby at_133) rfl ?_
              show Steps p.tables e below (s₁.setTop (mkF m 135 #[.val (.int p1), .val (.int p2), .val (.int p3), .val (.int p4), .val (.long q5), .second, .val (.int cv), .val (.int av), .val (.int bv), .val (.int ob), .val (.int ra), .val (.int md), .unset, .unset, .unset, .unset, .unset, .unset, .unset] [(.int md)])) _
              refine XS.bipush X0.here hx rfl (hb hby at_135) ?_
              by_cases m6 : md = (6 : Int32)
              ·
                show Steps p.tables e below (s₁.setTop (mkF m 137 #[.val (.int p1), .val (.int p2), .val (.int p3), .val (.int p4), .val (.long q5), .second, .val (.int cv), .val (.int av), .val (.int bv), .val (.int ob), .val (.int ra), .val (.int md), .unset, .unset, .unset, .unset, .unset, .unset, .unset] [(.int (6 : Int32)), (.int md)])) _
                refine XS.icmpNo X0.here hx rfl (hb hby at_137) rfl (teq m6).2 ?_
                show Steps p.tables e below (s₁.setTop (mkF m 140 #[.val (.int p1), .val (.int p2), .val (.int p3), .val (.int p4), .val (.long q5), .second, .val (.int cv), .val (.int av), .val (.int bv), .val (.int ob), .val (.int ra), .val (.int md), .unset, .unset, .unset, .unset, .unset, .unset, .unset] [])) _
                refine X0.ldc2Long hx hown (mvT hZ (hw _ (List.mem_of_getElem? (i := 83) rfl))) (g := (mkF m 140 #[.val (.int p1), .val (.int p2), .val (.int p3), .val (.int p4), .val (.long q5), .second, .val (.int cv), .val (.int av), .val (.int bv), .val (.int ob), .val (.int ra), .val (.int md), .unset, .unset, .unset, .unset, .unset, .unset, .unset] [])) rfl (hb hby at_140) _ ?_
                show Steps p.tables e below (s₁.setTop (mkF m 143 #[.val (.int p1), .val (.int p2), .val (.int p3), .val (.int p4), .val (.long q5), .second, .val (.int cv), .val (.int av), .val (.int bv), .val (.int ob), .val (.int ra), .val (.int md), .unset, .unset, .unset, .unset, .unset, .unset, .unset] [(.long (4294967296 : Int64))])) _
                refine XS.lload X0.here hx rfl (hb hby at_143) rfl ?_
                show Steps p.tables e below (s₁.setTop (mkF m 145 #[.val (.int p1), .val (.int p2), .val (.int p3), .val (.int p4), .val (.long q5), .second, .val (.int cv), .val (.int av), .val (.int bv), .val (.int ob), .val (.int ra), .val (.int md), .unset, .unset, .unset, .unset, .unset, .unset, .unset] [(.long q5), (.long (4294967296 : Int64))])) _
                refine X0.ldc2Long hx hown (mvT hZ (hw _ (List.mem_of_getElem? (i := 80) rfl))) (g := (mkF m 145 #[.val (.int p1), .val (.int p2), .val (.int p3), .val (.int p4), .val (.long q5), .second, .val (.int cv), .val (.int av), .val (.int bv), .val (.int ob), .val (.int ra), .val (.int md), .unset, .unset, .unset, .unset, .unset, .unset, .unset] [(.long q5), (.long (4294967296 : Int64))])) rfl (hb hby at_145) _ ?_
                show Steps p.tables e below (s₁.setTop (mkF m 148 #[.val (.int p1), .val (.int p2), .val (.int p3), .val (.int p4), .val (.long q5), .second, .val (.int cv), .val (.int av), .val (.int bv), .val (.int ob), .val (.int ra), .val (.int md), .unset, .unset, .unset, .unset, .unset, .unset, .unset] [(.long (1023 : Int64)), (.long q5), (.long (4294967296 : Int64))])) _
                refine XS.land X0.here hx rfl (hb hby at_148) rfl ?_
                show Steps p.tables e below (s₁.setTop (mkF m 149 #[.val (.int p1), .val (.int p2), .val (.int p3), .val (.int p4), .val (.long q5), .second, .val (.int cv), .val (.int av), .val (.int bv), .val (.int ob), .val (.int ra), .val (.int md), .unset, .unset, .unset, .unset, .unset, .unset, .unset] [(.long (q5 &&& (1023 : Int64))), (.long (4294967296 : Int64))])) _
                refine XS.ladd X0.here hx rfl (hb hby at_149) rfl ?_
                show Steps p.tables e below (s₁.setTop (mkF m 150 #[.val (.int p1), .val (.int p2), .val (.int p3), .val (.int p4), .val (.long q5), .second, .val (.int cv), .val (.int av), .val (.int bv), .val (.int ob), .val (.int ra), .val (.int md), .unset, .unset, .unset, .unset, .unset, .unset, .unset] [(.long ((4294967296 : Int64) + (q5 &&& (1023 : Int64))))])) _
                refine XS.lstore X0.here hx rfl (hb hby at_150) rfl (l' := #[.val (.int p1), .val (.int p2), .val (.int p3), .val (.int p4), .val (.long q5), .second, .val (.int cv), .val (.int av), .val (.int bv), .val (.int ob), .val (.int ra), .val (.int md), .val (.long ((4294967296 : Int64) + (q5 &&& (1023 : Int64)))), .second, .unset, .unset, .unset, .unset, .unset]) rfl ?_
                show Steps p.tables e below (s₁.setTop (mkF m 152 #[.val (.int p1), .val (.int p2), .val (.int p3), .val (.int p4), .val (.long q5), .second, .val (.int cv), .val (.int av), .val (.int bv), .val (.int ob), .val (.int ra), .val (.int md), .val (.long ((4294967296 : Int64) + (q5 &&& (1023 : Int64)))), .second, .unset, .unset, .unset, .unset, .unset] [])) _
                refine XS.goto X0.here hx rfl (pc0 := 152) (pc' := 181) rfl (hb hby at_152) (by decide) (by decide) ?_
                rw [show own_q md av bv q5 = _ from ((if_neg m2).trans ((if_neg m3).trans ((if_neg m4).trans ((if_neg m5).trans (if_pos m6)))))] at k; exact k
              ·
                show Steps p.tables e below (s₁.setTop (mkF m 137 #[.val (.int p1), .val (.int p2), .val (.int p3), .val (.int p4), .val (.long q5), .second, .val (.int cv), .val (.int av), .val (.int bv), .val (.int ob), .val (.int ra), .val (.int md), .unset, .unset, .unset, .unset, .unset, .unset, .unset] [(.int (6 : Int32)), (.int md)])) _
                refine XS.icmpYes X0.here hx rfl (pc0 := 137) (pc' := 155) rfl (hb hby at_137) rfl (feq m6).2 (by decide) (by decide) ?_
                show Steps p.tables e below (s₁.setTop (mkF m 155 #[.val (.int p1), .val (.int p2), .val (.int p3), .val (.int p4), .val (.long q5), .second, .val (.int cv), .val (.int av), .val (.int bv), .val (.int ob), .val (.int ra), .val (.int md), .unset, .unset, .unset, .unset, .unset, .unset, .unset] [])) _
                refine XS.iload X0.here hx rfl (hb hby at_155) rfl ?_
                show Steps p.tables e below (s₁.setTop (mkF m 157 #[.val (.int p1), .val (.int p2), .val (.int p3), .val (.int p4), .val (.long q5), .second, .val (.int cv), .val (.int av), .val (.int bv), .val (.int ob), .val (.int ra), .val (.int md), .unset, .unset, .unset, .unset, .unset, .unset, .unset] [(.int md)])) _
                refine XS.bipush X0.here hx rfl (hb hby at_157) ?_
                by_cases m7 : md = (7 : Int32)
                ·
                  show Steps p.tables e below (s₁.setTop (mkF m 159 #[.val (.int p1), .val (.int p2), .val (.int p3), .val (.int p4), .val (.long q5), .second, .val (.int cv), .val (.int av), .val (.int bv), .val (.int ob), .val (.int ra), .val (.int md), .unset, .unset, .unset, .unset, .unset, .unset, .unset] [(.int (7 : Int32)), (.int md)])) _
                  refine XS.icmpNo X0.here hx rfl (hb hby at_159) rfl (teq m7).2 ?_
                  show Steps p.tables e below (s₁.setTop (mkF m 162 #[.val (.int p1), .val (.int p2), .val (.int p3), .val (.int p4), .val (.long q5), .second, .val (.int cv), .val (.int av), .val (.int bv), .val (.int ob), .val (.int ra), .val (.int md), .unset, .unset, .unset, .unset, .unset, .unset, .unset] [])) _
                  refine X0.ldc2Long hx hown (mvT hZ (hw _ (List.mem_of_getElem? (i := 90) rfl))) (g := (mkF m 162 #[.val (.int p1), .val (.int p2), .val (.int p3), .val (.int p4), .val (.long q5), .second, .val (.int cv), .val (.int av), .val (.int bv), .val (.int ob), .val (.int ra), .val (.int md), .unset, .unset, .unset, .unset, .unset, .unset, .unset] [])) rfl (hb hby at_162) _ ?_
                  show Steps p.tables e below (s₁.setTop (mkF m 165 #[.val (.int p1), .val (.int p2), .val (.int p3), .val (.int p4), .val (.long q5), .second, .val (.int cv), .val (.int av), .val (.int bv), .val (.int ob), .val (.int ra), .val (.int md), .unset, .unset, .unset, .unset, .unset, .unset, .unset] [(.long (-9223372036854775808 : Int64))])) _
                  refine XS.lload X0.here hx rfl (hb hby at_165) rfl ?_
                  show Steps p.tables e below (s₁.setTop (mkF m 167 #[.val (.int p1), .val (.int p2), .val (.int p3), .val (.int p4), .val (.long q5), .second, .val (.int cv), .val (.int av), .val (.int bv), .val (.int ob), .val (.int ra), .val (.int md), .unset, .unset, .unset, .unset, .unset, .unset, .unset] [(.long q5), (.long (-9223372036854775808 : Int64))])) _
                  refine X0.ldc2Long hx hown (mvT hZ (hw _ (List.mem_of_getElem? (i := 80) rfl))) (g := (mkF m 167 #[.val (.int p1), .val (.int p2), .val (.int p3), .val (.int p4), .val (.long q5), .second, .val (.int cv), .val (.int av), .val (.int bv), .val (.int ob), .val (.int ra), .val (.int md), .unset, .unset, .unset, .unset, .unset, .unset, .unset] [(.long q5), (.long (-9223372036854775808 : Int64))])) rfl (hb hby at_167) _ ?_
                  show Steps p.tables e below (s₁.setTop (mkF m 170 #[.val (.int p1), .val (.int p2), .val (.int p3), .val (.int p4), .val (.long q5), .second, .val (.int cv), .val (.int av), .val (.int bv), .val (.int ob), .val (.int ra), .val (.int md), .unset, .unset, .unset, .unset, .unset, .unset, .unset] [(.long (1023 : Int64)), (.long q5), (.long (-9223372036854775808 : Int64))])) _
                  refine XS.land X0.here hx rfl (hb hby at_170) rfl ?_
                  show Steps p.tables e below (s₁.setTop (mkF m 171 #[.val (.int p1), .val (.int p2), .val (.int p3), .val (.int p4), .val (.long q5), .second, .val (.int cv), .val (.int av), .val (.int bv), .val (.int ob), .val (.int ra), .val (.int md), .unset, .unset, .unset, .unset, .unset, .unset, .unset] [(.long (q5 &&& (1023 : Int64))), (.long (-9223372036854775808 : Int64))])) _
                  refine XS.ladd X0.here hx rfl (hb hby at_171) rfl ?_
                  show Steps p.tables e below (s₁.setTop (mkF m 172 #[.val (.int p1), .val (.int p2), .val (.int p3), .val (.int p4), .val (.long q5), .second, .val (.int cv), .val (.int av), .val (.int bv), .val (.int ob), .val (.int ra), .val (.int md), .unset, .unset, .unset, .unset, .unset, .unset, .unset] [(.long ((-9223372036854775808 : Int64) + (q5 &&& (1023 : Int64))))])) _
                  refine XS.lstore X0.here hx rfl (hb hby at_172) rfl (l' := #[.val (.int p1), .val (.int p2), .val (.int p3), .val (.int p4), .val (.long q5), .second, .val (.int cv), .val (.int av), .val (.int bv), .val (.int ob), .val (.int ra), .val (.int md), .val (.long ((-9223372036854775808 : Int64) + (q5 &&& (1023 : Int64)))), .second, .unset, .unset, .unset, .unset, .unset]) rfl ?_
                  show Steps p.tables e below (s₁.setTop (mkF m 174 #[.val (.int p1), .val (.int p2), .val (.int p3), .val (.int p4), .val (.long q5), .second, .val (.int cv), .val (.int av), .val (.int bv), .val (.int ob), .val (.int ra), .val (.int md), .val (.long ((-9223372036854775808 : Int64) + (q5 &&& (1023 : Int64)))), .second, .unset, .unset, .unset, .unset, .unset] [])) _
                  refine XS.goto X0.here hx rfl (pc0 := 174) (pc' := 181) rfl (hb hby at_174) (by decide) (by decide) ?_
                  rw [show own_q md av bv q5 = _ from ((if_neg m2).trans ((if_neg m3).trans ((if_neg m4).trans ((if_neg m5).trans ((if_neg m6).trans (if_pos m7))))))] at k; exact k
                ·
                  show Steps p.tables e below (s₁.setTop (mkF m 159 #[.val (.int p1), .val (.int p2), .val (.int p3), .val (.int p4), .val (.long q5), .second, .val (.int cv), .val (.int av), .val (.int bv), .val (.int ob), .val (.int ra), .val (.int md), .unset, .unset, .unset, .unset, .unset, .unset, .unset] [(.int (7 : Int32)), (.int md)])) _
                  refine XS.icmpYes X0.here hx rfl (pc0 := 159) (pc' := 177) rfl (hb hby at_159) rfl (feq m7).2 (by decide) (by decide) ?_
                  show Steps p.tables e below (s₁.setTop (mkF m 177 #[.val (.int p1), .val (.int p2), .val (.int p3), .val (.int p4), .val (.long q5), .second, .val (.int cv), .val (.int av), .val (.int bv), .val (.int ob), .val (.int ra), .val (.int md), .unset, .unset, .unset, .unset, .unset, .unset, .unset] [])) _
                  refine XS.lload X0.here hx rfl (hb hby at_177) rfl ?_
                  show Steps p.tables e below (s₁.setTop (mkF m 179 #[.val (.int p1), .val (.int p2), .val (.int p3), .val (.int p4), .val (.long q5), .second, .val (.int cv), .val (.int av), .val (.int bv), .val (.int ob), .val (.int ra), .val (.int md), .unset, .unset, .unset, .unset, .unset, .unset, .unset] [(.long q5)])) _
                  refine XS.lstore X0.here hx rfl (hb hby at_179) rfl (l' := #[.val (.int p1), .val (.int p2), .val (.int p3), .val (.int p4), .val (.long q5), .second, .val (.int cv), .val (.int av), .val (.int bv), .val (.int ob), .val (.int ra), .val (.int md), .val (.long q5), .second, .unset, .unset, .unset, .unset, .unset]) rfl ?_
                  rw [show own_q md av bv q5 = _ from ((if_neg m2).trans ((if_neg m3).trans ((if_neg m4).trans ((if_neg m5).trans ((if_neg m6).trans (if_neg m7))))))] at k; exact k)
  obtain ⟨qq, e_qq⟩ : ∃ z : Int64, z = (own_q md av bv q5) := ⟨_, rfl⟩
  rw [← e_qq] at ac10
  obtain ⟨T11, h11, X11, e11, E11, A11, D11, -, st11⟩ := newO X0 hx hZ hown (hw _ (List.mem_of_getElem? (i := 0) rfl)) (hw _ (List.mem_of_getElem? (i := 1) rfl)) (hw _ (List.mem_of_getElem? (i := 2) rfl)) e0 (g := (mkF m 181 #[.val (.int p1), .val (.int p2), .val (.int p3), .val (.int p4), .val (.long q5), .second, .val (.int cv), .val (.int av), .val (.int bv), .val (.int ob), .val (.int ra), .val (.int md), .val (.long qq), .second, .unset, .unset, .unset, .unset, .unset] [])) rfl (hb hby at_181) (by decide) (by decide)
  obtain ⟨b11, g11⟩ : ∃ z, z = h0.size := ⟨_, rfl⟩
  rw [← g11] at A11 D11 st11
  have g_b11 : n0 ≤ b11 := Nat.le_trans Z0 (Nat.le_of_eq g11.symm)
  have Sf12 := Sf.ext E11
  have Z11 : n0 ≤ h11.size := Nat.le_trans Z0 E11.1
  have F_cells_b11 : Fld Z h11 b11 "com/example/twinbase/twinbase/CellSpace" "cells" "[J" .null := D11 (Or.inl (hw _ (List.mem_of_getElem? (i := 11) rfl))) (ty := (.array .long)) (by decide)
  have F_used_b11 : Fld Z h11 b11 "com/example/twinbase/twinbase/CellSpace" "used" "[J" .null := D11 (Or.inl (hw _ (List.mem_of_getElem? (i := 13) rfl))) (ty := (.array .long)) (by decide)
  have F_full_b11 : Fld Z h11 b11 "com/example/twinbase/twinbase/CellSpace" "full" "[J" .null := D11 (Or.inl (hw _ (List.mem_of_getElem? (i := 15) rfl))) (ty := (.array .long)) (by decide)
  have F_resume_b11 : Fld Z h11 b11 "com/example/twinbase/twinbase/CellSpace" "resume" "[I" .null := D11 (Or.inr (hw _ (List.mem_of_getElem? (i := 18) rfl))) (ty := (.array .int)) (by decide)
  have F_size_b11 : Fld Z h11 b11 "com/example/twinbase/twinbase/CellSpace" "size" "I" (.int (0 : Int32)) := D11 (Or.inl (hw _ (List.mem_of_getElem? (i := 69) rfl))) (ty := .int) (by decide)
  have F_lowestFree_b11 : Fld Z h11 b11 "com/example/twinbase/twinbase/CellSpace" "lowestFree" "I" (.int (0 : Int32)) := D11 (Or.inl (hw _ (List.mem_of_getElem? (i := 74) rfl))) (ty := .int) (by decide)
  have ac13 : ∀ t, Steps p.tables e below (T11.setTop (mkF m 184 #[.val (.int p1), .val (.int p2), .val (.int p3), .val (.int p4), .val (.long q5), .second, .val (.int cv), .val (.int av), .val (.int bv), .val (.int ob), .val (.int ra), .val (.int md), .val (.long qq), .second, .unset, .unset, .unset, .unset, .unset] [(.ref b11)])) t → Steps p.tables e below (s₁.setTop (entryFrame m #[(.int p1), (.int p2), (.int p3), (.int p4), (.long q5)] maxLocals)) t := fun t k => ac10 t (st11 t k)
  have ac14 : ∀ t, Steps p.tables e below (T11.setTop (mkF m 187 #[.val (.int p1), .val (.int p2), .val (.int p3), .val (.int p4), .val (.long q5), .second, .val (.int cv), .val (.int av), .val (.int bv), .val (.int ob), .val (.int ra), .val (.int md), .val (.long qq), .second, .unset, .unset, .unset, .unset, .unset] [(.int cv), (.ref b11), (.ref b11)])) t → Steps p.tables e below (s₁.setTop (entryFrame m #[(.int p1), (.int p2), (.int p3), (.int p4), (.long q5)] maxLocals)) t := fun t k => ac13 t (by
      show Steps p.tables e below (T11.setTop (mkF m 184 #[.val (.int p1), .val (.int p2), .val (.int p3), .val (.int p4), .val (.long q5), .second, .val (.int cv), .val (.int av), .val (.int bv), .val (.int ob), .val (.int ra), .val (.int md), .val (.long qq), .second, .unset, .unset, .unset, .unset, .unset] [(.ref b11)])) _
      refine XS.dup X11.here hx rfl (hb hby at_184) rfl rfl ?_
      show Steps p.tables e below (T11.setTop (mkF m 185 #[.val (.int p1), .val (.int p2), .val (.int p3), .val (.int p4), .val (.long q5), .second, .val (.int cv), .val (.int av), .val (.int bv), .val (.int ob), .val (.int ra), .val (.int md), .val (.long qq), .second, .unset, .unset, .unset, .unset, .unset] [(.ref b11), (.ref b11)])) _
      refine XS.iload X11.here hx rfl (hb hby at_185) rfl ?_
      exact k)
  obtain ⟨_, _, ⟨T15, L15, k15, n15⟩, -, X15, ⟨Lc15, hQ15, l15, y15, z15⟩, st15⟩ := X11.specialBack hx (y := (⟨"com/example/twinbase/twinbase/CellSpace", "<init>", "(I)V"⟩ : MethodName)) rfl hown (mvT hZ (hw _ (List.mem_of_getElem? (i := 3) rfl))) (mvT hZ (hw _ (List.mem_of_getElem? (i := 4) rfl))) (mvT hZ (hw _ (List.mem_of_getElem? (i := 5) rfl))) (by decide) (backOf (W := 1) (rm1 l Z a0 hw [] b11 cv cvn frv h11 n0 Z11 A11 g_b11 F_cells_b11 F_used_b11 F_full_b11 F_resume_b11 F_lowestFree_b11 F_size_b11 hcvn lcvn Sf12) hZ (hw _ (List.mem_of_getElem? (i := 5) rfl)) (hw _ (List.mem_of_getElem? (i := 2) rfl)) (by decide) (by decide)) (g := (mkF m 187 #[.val (.int p1), .val (.int p2), .val (.int p3), .val (.int p4), .val (.long q5), .second, .val (.int cv), .val (.int av), .val (.int bv), .val (.int ob), .val (.int ra), .val (.int md), .val (.long qq), .second, .unset, .unset, .unset, .unset, .unset] [(.int cv), (.ref b11), (.ref b11)])) rfl (by rw [hml]; rfl) (Steps.refl _) (a := b11) (argsL := [(.int cv)]) (rest := [(.ref b11)]) (lenOf pd_0 rfl) rfl (by show 2 * 0 + _ ≤ _; exact Nat.le_of_eq rfl) (hb hby at_187) (fun _ _ => ⟨rfl, e11, (by decide : 1 + 7 ≤ _), (by decide : 6 + 1073 ≤ _)⟩)
  dsimp only [Pt.U, Pt.locs, Pt.cells, Pt.slots] at X15 l15 y15 z15 st15 hQ15
  subst l15 y15 z15
  obtain ⟨bC15, bU15, bF15, bR15, fC15, ff15, r15, ln15, rfl, N15q, K15q, l25515, HB15⟩ := hQ15
  have N15 := Fr.app N0 N15q
  have Sf16 := own_Sta_keep1 Sf12 K15q (allS (own_cellE A11) all0)
  have Ef17 := A11.keep K15q
  have Z15 : n0 ≤ T15.heap.size := Nat.le_trans Z11 K15q.1
  have ac18 : ∀ t, Steps p.tables e below (T15.setTop (mkF m 190 #[.val (.int p1), .val (.int p2), .val (.int p3), .val (.int p4), .val (.long q5), .second, .val (.int cv), .val (.int av), .val (.int bv), .val (.int ob), .val (.int ra), .val (.int md), .val (.long qq), .second, .unset, .unset, .unset, .unset, .unset] [(.ref b11)])) t → Steps p.tables e below (s₁.setTop (entryFrame m #[(.int p1), (.int p2), (.int p3), (.int p4), (.long q5)] maxLocals)) t := fun t k => ac14 t (st15.trans k)
  have hl255 := l25515
  obtain ⟨j1, hj1, hj1n⟩ := own_j1 avn
  have hff1 : av = (0 : Int32) → ¬ own_free (((fun _ => (0 : Int64)) (avn / 64)) ||| (own_sh av)) av = 0 := fun h => by
    have h0n : avn = 0 := by rw [h] at havn; have z : (0 : Int32).toInt = 0 := rfl; omega
    exact own_free_ne havn (j := 1) (by decide) (own_bit_at havn own_U_zero (by decide) (by omega) (fun q => q)) (by omega)
  have hlw0 : ¬ av = 0 → (own_low av (0 : Int32) (((fun _ => (0 : Int64)) (avn / 64)) ||| (own_sh av))) = 0 := fun h => own_low_f h
  have hlw1 : av = 0 → (own_low av (0 : Int32) (((fun _ => (0 : Int64)) (avn / 64)) ||| (own_sh av))) = 1 := fun h => by
    rw [h]
    show own_low (0 : Int32) 0 ((0 : Int64) ||| own_sh 0) = 1
    decide +kernel
  have hu1 : own_U (fun i => if i = avn / 64 then (fun _ => (0 : Int64)) i ||| own_sh av else (fun _ => (0 : Int64)) i) (fun k => False ∨ k = avn) := own_U_add havn own_U_zero
  have ac19 : ∀ t, Steps p.tables e below (T15.setTop (mkF m 196 #[.val (.int p1), .val (.int p2), .val (.int p3), .val (.int p4), .val (.long q5), .second, .val (.int cv), .val (.int av), .val (.int bv), .val (.int ob), .val (.int ra), .val (.int md), .val (.long qq), .second, .val (.ref b11), .unset, .unset, .unset, .unset] [(.int av), (.ref b11)])) t → Steps p.tables e below (s₁.setTop (entryFrame m #[(.int p1), (.int p2), (.int p3), (.int p4), (.long q5)] maxLocals)) t := fun t k => ac18 t (by
      show Steps p.tables e below (T15.setTop (mkF m 190 #[.val (.int p1), .val (.int p2), .val (.int p3), .val (.int p4), .val (.long q5), .second, .val (.int cv), .val (.int av), .val (.int bv), .val (.int ob), .val (.int ra), .val (.int md), .val (.long qq), .second, .unset, .unset, .unset, .unset, .unset] [(.ref b11)])) _
      refine XS.astore X15.here hx rfl (hb hby at_190) rfl rfl (l' := #[.val (.int p1), .val (.int p2), .val (.int p3), .val (.int p4), .val (.long q5), .second, .val (.int cv), .val (.int av), .val (.int bv), .val (.int ob), .val (.int ra), .val (.int md), .val (.long qq), .second, .val (.ref b11), .unset, .unset, .unset, .unset]) rfl ?_
      show Steps p.tables e below (T15.setTop (mkF m 192 #[.val (.int p1), .val (.int p2), .val (.int p3), .val (.int p4), .val (.long q5), .second, .val (.int cv), .val (.int av), .val (.int bv), .val (.int ob), .val (.int ra), .val (.int md), .val (.long qq), .second, .val (.ref b11), .unset, .unset, .unset, .unset] [])) _
      refine XS.aload X15.here hx rfl (hb hby at_192) rfl rfl ?_
      show Steps p.tables e below (T15.setTop (mkF m 194 #[.val (.int p1), .val (.int p2), .val (.int p3), .val (.int p4), .val (.long q5), .second, .val (.int cv), .val (.int av), .val (.int bv), .val (.int ob), .val (.int ra), .val (.int md), .val (.long qq), .second, .val (.ref b11), .unset, .unset, .unset, .unset] [(.ref b11)])) _
      refine XS.iload X15.here hx rfl (hb hby at_194) rfl ?_
      exact k)
  obtain ⟨cq20, kq20, q20a, q20b, q20c⟩ := isOf hZ rfl HB15.1
  obtain ⟨_, _, ⟨T20, L20, k20, n20⟩, -, X20, ⟨Lc20, hQ20, l20, y20, z20⟩, st20⟩ := X15.virtualBack hx (y := (⟨"com/example/twinbase/twinbase/CellSpace", "occupy", "(I)V"⟩ : MethodName)) (z := (⟨"com/example/twinbase/twinbase/CellSpace", "occupy", "(I)V"⟩ : MethodName)) hown (mvT hZ (hw _ (List.mem_of_getElem? (i := 55) rfl))) (mvT hZ (hw _ (List.mem_of_getElem? (i := 56) rfl))) (notFace_of_selects (args := #[]) (mvT hZ (hw _ (List.mem_of_getElem? (i := 58) rfl)))) (mvT hZ (hw _ (List.mem_of_getElem? (i := 58) rfl))) (mvT hZ (hw _ (List.mem_of_getElem? (i := 57) rfl))) (by decide) (backOf (W := 0) (rm9 l Z a0 hw [] b11 av (0 : Int32) _ bC15 bU15 bF15 bR15 ln15 _ (fun _ => (0 : Int64)) _ _ avn frv T15.heap n0 Z15 HB15 havn lavn (by omega) (fun _ _ => rfl) g_b11 (own_ne_m1 hj1 (own_bit_at havn own_U_zero hj1 hj1n (fun q => q))) hff1 Sf16) hZ (hw _ (List.mem_of_getElem? (i := 59) rfl)) (hw _ (List.mem_of_getElem? (i := 2) rfl)) (by decide) (by decide)) q20a q20c (g := (mkF m 196 #[.val (.int p1), .val (.int p2), .val (.int p3), .val (.int p4), .val (.long q5), .second, .val (.int cv), .val (.int av), .val (.int bv), .val (.int ob), .val (.int ra), .val (.int md), .val (.long qq), .second, .val (.ref b11), .unset, .unset, .unset, .unset] [(.int av), (.ref b11)])) rfl (by rw [hml]; rfl) (Steps.refl _) (argsL := [(.int av)]) (rest := []) (lenOf pd_0 rfl) rfl (by show 2 * 0 + _ ≤ _; exact Nat.le_of_eq rfl) (hb hby at_196) (fun _ _ => ⟨rfl, rfl, (by decide : 8 + 3 ≤ _), (by decide : 1079 + 1041 ≤ _)⟩)
  dsimp only [Pt.U, Pt.locs, Pt.cells, Pt.slots] at X20 l20 y20 z20 st20 hQ20
  subst l20 y20 z20
  obtain ⟨bC20, bU20, bF20, fC20, ff20, ln20, sz20, rfl, N20q, K20q, c120, c220, c320, HB20⟩ := hQ20
  have N20 := Fr.app N15 N20q
  have Ef21 := HB15.1.keep K20q
  have Sf22 := own_Sta_keep1 Sf16 K20q (allS (own_cellE HB15.1) (allS (own_cellV HB15.2.2.2.2.2.2.2.2.1) all0))
  have Z20 : n0 ≤ T20.heap.size := Nat.le_trans Z15 K20q.1
  have ac23 : ∀ t, Steps p.tables e below (T20.setTop (mkF m 199 #[.val (.int p1), .val (.int p2), .val (.int p3), .val (.int p4), .val (.long q5), .second, .val (.int cv), .val (.int av), .val (.int bv), .val (.int ob), .val (.int ra), .val (.int md), .val (.long qq), .second, .val (.ref b11), .unset, .unset, .unset, .unset] [])) t → Steps p.tables e below (s₁.setTop (entryFrame m #[(.int p1), (.int p2), (.int p3), (.int p4), (.long q5)] maxLocals)) t := fun t k => ac19 t (st20.trans k)
  have hA : avn < ln20 := c120
  have hL1 : ln20 ≤ 512 := by omega
  have ac24 : ∀ t, Steps p.tables e below (T20.setTop (mkF m 201 #[.val (.int p1), .val (.int p2), .val (.int p3), .val (.int p4), .val (.long q5), .second, .val (.int cv), .val (.int av), .val (.int bv), .val (.int ob), .val (.int ra), .val (.int md), .val (.long qq), .second, .val (.ref b11), .unset, .unset, .unset, .unset] [(.int ob)])) t → Steps p.tables e below (s₁.setTop (entryFrame m #[(.int p1), (.int p2), (.int p3), (.int p4), (.long q5)] maxLocals)) t := fun t k => ac23 t (by
      show Steps p.tables e below (T20.setTop (mkF m 199 #[.val (.int p1), .val (.int p2), .val (.int p3), .val (.int p4), .val (.long q5), .second, .val (.int cv), .val (.int av), .val (.int bv), .val (.int ob), .val (.int ra), .val (.int md), .val (.long qq), .second, .val (.ref b11), .unset, .unset, .unset, .unset] [])) _
      refine XS.iload X20.here hx rfl (hb hby at_199) rfl ?_
      exact k)
  by_cases hob0 : ob = (0 : Int32)
  ·
    have hA2 := hA
    have hL2 : ln20 < 2147483648 := by omega
    have hB2 : ¬ ob = 0 → bvn < ln20 := fun q => absurd hob0 q
    have huF := hu1
    have hbn : True := trivial
    have ac25 : ∀ t, Steps p.tables e below (T20.setTop (mkF m 213 #[.val (.int p1), .val (.int p2), .val (.int p3), .val (.int p4), .val (.long q5), .second, .val (.int cv), .val (.int av), .val (.int bv), .val (.int ob), .val (.int ra), .val (.int md), .val (.long qq), .second, .val (.ref b11), .unset, .unset, .unset, .unset] [(.int ra)])) t → Steps p.tables e below (s₁.setTop (entryFrame m #[(.int p1), (.int p2), (.int p3), (.int p4), (.long q5)] maxLocals)) t := fun t k => ac24 t (by
        show Steps p.tables e below (T20.setTop (mkF m 201 #[.val (.int p1), .val (.int p2), .val (.int p3), .val (.int p4), .val (.long q5), .second, .val (.int cv), .val (.int av), .val (.int bv), .val (.int ob), .val (.int ra), .val (.int md), .val (.long qq), .second, .val (.ref b11), .unset, .unset, .unset, .unset] [(.int ob)])) _
        refine XS.ifYes X20.here hx rfl (pc0 := 201) (pc' := 211) rfl (hb hby at_201) rfl ((if0 _ _).trans (teq hob0).1) (by decide) (by decide) ?_
        show Steps p.tables e below (T20.setTop (mkF m 211 #[.val (.int p1), .val (.int p2), .val (.int p3), .val (.int p4), .val (.long q5), .second, .val (.int cv), .val (.int av), .val (.int bv), .val (.int ob), .val (.int ra), .val (.int md), .val (.long qq), .second, .val (.ref b11), .unset, .unset, .unset, .unset] [])) _
        refine XS.iload X20.here hx rfl (hb hby at_211) rfl ?_
        exact k)
    by_cases hra : ra = (0 : Int32)
    ·
      have ac26 : ∀ t, Steps p.tables e below (T20.setTop (mkF m 227 #[.val (.int p1), .val (.int p2), .val (.int p3), .val (.int p4), .val (.long q5), .second, .val (.int cv), .val (.int av), .val (.int bv), .val (.int ob), .val (.int ra), .val (.int md), .val (.long qq), .second, .val (.ref b11), .unset, .unset, .unset, .unset] [(.int (lcmpW qq (0 : Int64)))])) t → Steps p.tables e below (s₁.setTop (entryFrame m #[(.int p1), (.int p2), (.int p3), (.int p4), (.long q5)] maxLocals)) t := fun t k => ac25 t (by
          show Steps p.tables e below (T20.setTop (mkF m 213 #[.val (.int p1), .val (.int p2), .val (.int p3), .val (.int p4), .val (.long q5), .second, .val (.int cv), .val (.int av), .val (.int bv), .val (.int ob), .val (.int ra), .val (.int md), .val (.long qq), .second, .val (.ref b11), .unset, .unset, .unset, .unset] [(.int ra)])) _
          refine XS.ifYes X20.here hx rfl (pc0 := 213) (pc' := 223) rfl (hb hby at_213) rfl ((if0 _ _).trans (teq hra).1) (by decide) (by decide) ?_
          show Steps p.tables e below (T20.setTop (mkF m 223 #[.val (.int p1), .val (.int p2), .val (.int p3), .val (.int p4), .val (.long q5), .second, .val (.int cv), .val (.int av), .val (.int bv), .val (.int ob), .val (.int ra), .val (.int md), .val (.long qq), .second, .val (.ref b11), .unset, .unset, .unset, .unset] [])) _
          refine XS.lload X20.here hx rfl (hb hby at_223) rfl ?_
          show Steps p.tables e below (T20.setTop (mkF m 225 #[.val (.int p1), .val (.int p2), .val (.int p3), .val (.int p4), .val (.long q5), .second, .val (.int cv), .val (.int av), .val (.int bv), .val (.int ob), .val (.int ra), .val (.int md), .val (.long qq), .second, .val (.ref b11), .unset, .unset, .unset, .unset] [(.long qq)])) _
          refine XS.lconst X20.here hx rfl (hb hby at_225) ?_
          show Steps p.tables e below (T20.setTop (mkF m 226 #[.val (.int p1), .val (.int p2), .val (.int p3), .val (.int p4), .val (.long q5), .second, .val (.int cv), .val (.int av), .val (.int bv), .val (.int ob), .val (.int ra), .val (.int md), .val (.long qq), .second, .val (.ref b11), .unset, .unset, .unset, .unset] [(.long (0 : Int64)), (.long qq)])) _
          refine XS.lcmp X20.here hx rfl (hb hby at_226) rfl ?_
          exact k)
      have ac27 : ∀ t, Steps p.tables e below (T20.setTop (mkF m 244 #[.val (.int p1), .val (.int p2), .val (.int p3), .val (.int p4), .val (.long q5), .second, .val (.int cv), .val (.int av), .val (.int bv), .val (.int ob), .val (.int ra), .val (.int md), .val (.long qq), .second, .val (.ref b11), .unset, .unset, .unset, .unset] [(.int (own_inr qq))])) t → Steps p.tables e below (s₁.setTop (entryFrame m #[(.int p1), (.int p2), (.int p3), (.int p4), (.long q5)] maxLocals)) t := fun t k => ac26 t (by
          by_cases hq0 : qq < (0 : Int64)
          ·
            show Steps p.tables e below (T20.setTop (mkF m 227 #[.val (.int p1), .val (.int p2), .val (.int p3), .val (.int p4), .val (.long q5), .second, .val (.int cv), .val (.int av), .val (.int bv), .val (.int ob), .val (.int ra), .val (.int md), .val (.long qq), .second, .val (.ref b11), .unset, .unset, .unset, .unset] [(.int (lcmpW qq (0 : Int64)))])) _
            refine XS.ifYes X20.here hx rfl (pc0 := 227) (pc' := 243) rfl (hb hby at_227) rfl ((if0 _ _).trans (tlt ((lw_lt _ _).mpr hq0)).1) (by decide) (by decide) ?_
            show Steps p.tables e below (T20.setTop (mkF m 243 #[.val (.int p1), .val (.int p2), .val (.int p3), .val (.int p4), .val (.long q5), .second, .val (.int cv), .val (.int av), .val (.int bv), .val (.int ob), .val (.int ra), .val (.int md), .val (.long qq), .second, .val (.ref b11), .unset, .unset, .unset, .unset] [])) _
            refine XS.iconst X20.here hx rfl (hb hby at_243) ?_
            rw [show own_inr qq = 0 from if_pos hq0] at k; exact k
          ·
            show Steps p.tables e below (T20.setTop (mkF m 227 #[.val (.int p1), .val (.int p2), .val (.int p3), .val (.int p4), .val (.long q5), .second, .val (.int cv), .val (.int av), .val (.int bv), .val (.int ob), .val (.int ra), .val (.int md), .val (.long qq), .second, .val (.ref b11), .unset, .unset, .unset, .unset] [(.int (lcmpW qq (0 : Int64)))])) _
            refine XS.ifNo X20.here hx rfl (hb hby at_227) rfl ((if0 _ _).trans (flt (mt (lw_lt _ _).mp hq0)).1) ?_
            show Steps p.tables e below (T20.setTop (mkF m 230 #[.val (.int p1), .val (.int p2), .val (.int p3), .val (.int p4), .val (.long q5), .second, .val (.int cv), .val (.int av), .val (.int bv), .val (.int ob), .val (.int ra), .val (.int md), .val (.long qq), .second, .val (.ref b11), .unset, .unset, .unset, .unset] [])) _
            refine XS.lload X20.here hx rfl (hb hby at_230) rfl ?_
            show Steps p.tables e below (T20.setTop (mkF m 232 #[.val (.int p1), .val (.int p2), .val (.int p3), .val (.int p4), .val (.long q5), .second, .val (.int cv), .val (.int av), .val (.int bv), .val (.int ob), .val (.int ra), .val (.int md), .val (.long qq), .second, .val (.ref b11), .unset, .unset, .unset, .unset] [(.long qq)])) _
            refine X20.ldc2Long hx hown (mvT hZ (hw _ (List.mem_of_getElem? (i := 82) rfl))) (g := (mkF m 232 #[.val (.int p1), .val (.int p2), .val (.int p3), .val (.int p4), .val (.long q5), .second, .val (.int cv), .val (.int av), .val (.int bv), .val (.int ob), .val (.int ra), .val (.int md), .val (.long qq), .second, .val (.ref b11), .unset, .unset, .unset, .unset] [(.long qq)])) rfl (hb hby at_232) _ ?_
            show Steps p.tables e below (T20.setTop (mkF m 235 #[.val (.int p1), .val (.int p2), .val (.int p3), .val (.int p4), .val (.long q5), .second, .val (.int cv), .val (.int av), .val (.int bv), .val (.int ob), .val (.int ra), .val (.int md), .val (.long qq), .second, .val (.ref b11), .unset, .unset, .unset, .unset] [(.long (2147483646 : Int64)), (.long qq)])) _
            refine XS.lcmp X20.here hx rfl (hb hby at_235) rfl ?_
            by_cases hq1 : qq < (2147483646 : Int64)
            ·
              show Steps p.tables e below (T20.setTop (mkF m 236 #[.val (.int p1), .val (.int p2), .val (.int p3), .val (.int p4), .val (.long q5), .second, .val (.int cv), .val (.int av), .val (.int bv), .val (.int ob), .val (.int ra), .val (.int md), .val (.long qq), .second, .val (.ref b11), .unset, .unset, .unset, .unset] [(.int (lcmpW qq (2147483646 : Int64)))])) _
              refine XS.ifNo X20.here hx rfl (hb hby at_236) rfl ((if0 _ _).trans (tlt ((lw_lt _ _).mpr hq1)).2.1) ?_
              show Steps p.tables e below (T20.setTop (mkF m 239 #[.val (.int p1), .val (.int p2), .val (.int p3), .val (.int p4), .val (.long q5), .second, .val (.int cv), .val (.int av), .val (.int bv), .val (.int ob), .val (.int ra), .val (.int md), .val (.long qq), .second, .val (.ref b11), .unset, .unset, .unset, .unset] [])) _
              refine XS.iconst X20.here hx rfl (hb hby at_239) ?_
              show Steps p.tables e below (T20.setTop (mkF m 240 #[.val (.int p1), .val (.int p2), .val (.int p3), .val (.int p4), .val (.long q5), .second, .val (.int cv), .val (.int av), .val (.int bv), .val (.int ob), .val (.int ra), .val (.int md), .val (.long qq), .second, .val (.ref b11), .unset, .unset, .unset, .unset] [(.int (1 : Int32))])) _
              refine XS.goto X20.here hx rfl (pc0 := 240) (pc' := 244) rfl (hb hby at_240) (by decide) (by decide) ?_
              rw [show own_inr qq = 1 from (if_neg hq0).trans (if_pos hq1)] at k; exact k
            ·
              show Steps p.tables e below (T20.setTop (mkF m 236 #[.val (.int p1), .val (.int p2), .val (.int p3), .val (.int p4), .val (.long q5), .second, .val (.int cv), .val (.int av), .val (.int bv), .val (.int ob), .val (.int ra), .val (.int md), .val (.long qq), .second, .val (.ref b11), .unset, .unset, .unset, .unset] [(.int (lcmpW qq (2147483646 : Int64)))])) _
              refine XS.ifYes X20.here hx rfl (pc0 := 236) (pc' := 243) rfl (hb hby at_236) rfl ((if0 _ _).trans (flt (mt (lw_lt _ _).mp hq1)).2.1) (by decide) (by decide) ?_
              show Steps p.tables e below (T20.setTop (mkF m 243 #[.val (.int p1), .val (.int p2), .val (.int p3), .val (.int p4), .val (.long q5), .second, .val (.int cv), .val (.int av), .val (.int bv), .val (.int ob), .val (.int ra), .val (.int md), .val (.long qq), .second, .val (.ref b11), .unset, .unset, .unset, .unset] [])) _
              refine XS.iconst X20.here hx rfl (hb hby at_243) ?_
              rw [show own_inr qq = 0 from (if_neg hq0).trans (if_neg hq1)] at k; exact k)
      have ac28 : ∀ t, Steps p.tables e below (T20.setTop (mkF m 248 #[.val (.int p1), .val (.int p2), .val (.int p3), .val (.int p4), .val (.long q5), .second, .val (.int cv), .val (.int av), .val (.int bv), .val (.int ob), .val (.int ra), .val (.int md), .val (.long qq), .second, .val (.ref b11), .val (.int (own_inr qq)), .unset, .unset, .unset] [(.int ra)])) t → Steps p.tables e below (s₁.setTop (entryFrame m #[(.int p1), (.int p2), (.int p3), (.int p4), (.long q5)] maxLocals)) t := fun t k => ac27 t (by
          show Steps p.tables e below (T20.setTop (mkF m 244 #[.val (.int p1), .val (.int p2), .val (.int p3), .val (.int p4), .val (.long q5), .second, .val (.int cv), .val (.int av), .val (.int bv), .val (.int ob), .val (.int ra), .val (.int md), .val (.long qq), .second, .val (.ref b11), .unset, .unset, .unset, .unset] [(.int (own_inr qq))])) _
          refine XS.istore X20.here hx rfl (hb hby at_244) rfl (l' := #[.val (.int p1), .val (.int p2), .val (.int p3), .val (.int p4), .val (.long q5), .second, .val (.int cv), .val (.int av), .val (.int bv), .val (.int ob), .val (.int ra), .val (.int md), .val (.long qq), .second, .val (.ref b11), .val (.int (own_inr qq)), .unset, .unset, .unset]) rfl ?_
          show Steps p.tables e below (T20.setTop (mkF m 246 #[.val (.int p1), .val (.int p2), .val (.int p3), .val (.int p4), .val (.long q5), .second, .val (.int cv), .val (.int av), .val (.int bv), .val (.int ob), .val (.int ra), .val (.int md), .val (.long qq), .second, .val (.ref b11), .val (.int (own_inr qq)), .unset, .unset, .unset] [])) _
          refine XS.iload X20.here hx rfl (hb hby at_246) rfl ?_
          exact k)
      have ac29 : ∀ t, Steps p.tables e below (T20.setTop (mkF m 265 #[.val (.int p1), .val (.int p2), .val (.int p3), .val (.int p4), .val (.long q5), .second, .val (.int cv), .val (.int av), .val (.int bv), .val (.int ob), .val (.int ra), .val (.int md), .val (.long qq), .second, .val (.ref b11), .val (.int (own_inr qq)), .unset, .unset, .unset] [(.int (own_ua ra qq av))])) t → Steps p.tables e below (s₁.setTop (entryFrame m #[(.int p1), (.int p2), (.int p3), (.int p4), (.long q5)] maxLocals)) t := fun t k => ac28 t (by
          show Steps p.tables e below (T20.setTop (mkF m 248 #[.val (.int p1), .val (.int p2), .val (.int p3), .val (.int p4), .val (.long q5), .second, .val (.int cv), .val (.int av), .val (.int bv), .val (.int ob), .val (.int ra), .val (.int md), .val (.long qq), .second, .val (.ref b11), .val (.int (own_inr qq)), .unset, .unset, .unset] [(.int ra)])) _
          refine XS.ifNo X20.here hx rfl (hb hby at_248) rfl ((if0 _ _).trans (teq hra).2) ?_
          show Steps p.tables e below (T20.setTop (mkF m 251 #[.val (.int p1), .val (.int p2), .val (.int p3), .val (.int p4), .val (.long q5), .second, .val (.int cv), .val (.int av), .val (.int bv), .val (.int ob), .val (.int ra), .val (.int md), .val (.long qq), .second, .val (.ref b11), .val (.int (own_inr qq)), .unset, .unset, .unset] [])) _
          refine XS.lload X20.here hx rfl (hb hby at_251) rfl ?_
          show Steps p.tables e below (T20.setTop (mkF m 253 #[.val (.int p1), .val (.int p2), .val (.int p3), .val (.int p4), .val (.long q5), .second, .val (.int cv), .val (.int av), .val (.int bv), .val (.int ob), .val (.int ra), .val (.int md), .val (.long qq), .second, .val (.ref b11), .val (.int (own_inr qq)), .unset, .unset, .unset] [(.long qq)])) _
          refine XS.iload X20.here hx rfl (hb hby at_253) rfl ?_
          show Steps p.tables e below (T20.setTop (mkF m 255 #[.val (.int p1), .val (.int p2), .val (.int p3), .val (.int p4), .val (.long q5), .second, .val (.int cv), .val (.int av), .val (.int bv), .val (.int ob), .val (.int ra), .val (.int md), .val (.long qq), .second, .val (.ref b11), .val (.int (own_inr qq)), .unset, .unset, .unset] [(.int av), (.long qq)])) _
          refine XS.i2l X20.here hx rfl (hb hby at_255) rfl ?_
          show Steps p.tables e below (T20.setTop (mkF m 256 #[.val (.int p1), .val (.int p2), .val (.int p3), .val (.int p4), .val (.long q5), .second, .val (.int cv), .val (.int av), .val (.int bv), .val (.int ob), .val (.int ra), .val (.int md), .val (.long qq), .second, .val (.ref b11), .val (.int (own_inr qq)), .unset, .unset, .unset] [(.long (av.toInt64)), (.long qq)])) _
          refine XS.lcmp X20.here hx rfl (hb hby at_256) rfl ?_
          by_cases hqa : qq = (av.toInt64)
          ·
            show Steps p.tables e below (T20.setTop (mkF m 257 #[.val (.int p1), .val (.int p2), .val (.int p3), .val (.int p4), .val (.long q5), .second, .val (.int cv), .val (.int av), .val (.int bv), .val (.int ob), .val (.int ra), .val (.int md), .val (.long qq), .second, .val (.ref b11), .val (.int (own_inr qq)), .unset, .unset, .unset] [(.int (lcmpW qq (av.toInt64)))])) _
            refine XS.ifNo X20.here hx rfl (hb hby at_257) rfl ((if0 _ _).trans (teq ((lw_eq _ _).mpr hqa)).2) ?_
            show Steps p.tables e below (T20.setTop (mkF m 260 #[.val (.int p1), .val (.int p2), .val (.int p3), .val (.int p4), .val (.long q5), .second, .val (.int cv), .val (.int av), .val (.int bv), .val (.int ob), .val (.int ra), .val (.int md), .val (.long qq), .second, .val (.ref b11), .val (.int (own_inr qq)), .unset, .unset, .unset] [])) _
            refine XS.iconst X20.here hx rfl (hb hby at_260) ?_
            show Steps p.tables e below (T20.setTop (mkF m 261 #[.val (.int p1), .val (.int p2), .val (.int p3), .val (.int p4), .val (.long q5), .second, .val (.int cv), .val (.int av), .val (.int bv), .val (.int ob), .val (.int ra), .val (.int md), .val (.long qq), .second, .val (.ref b11), .val (.int (own_inr qq)), .unset, .unset, .unset] [(.int (1 : Int32))])) _
            refine XS.goto X20.here hx rfl (pc0 := 261) (pc' := 265) rfl (hb hby at_261) (by decide) (by decide) ?_
            rw [show own_ua ra qq av = 1 from (if_pos hra).trans (if_pos hqa)] at k; exact k
          ·
            show Steps p.tables e below (T20.setTop (mkF m 257 #[.val (.int p1), .val (.int p2), .val (.int p3), .val (.int p4), .val (.long q5), .second, .val (.int cv), .val (.int av), .val (.int bv), .val (.int ob), .val (.int ra), .val (.int md), .val (.long qq), .second, .val (.ref b11), .val (.int (own_inr qq)), .unset, .unset, .unset] [(.int (lcmpW qq (av.toInt64)))])) _
            refine XS.ifYes X20.here hx rfl (pc0 := 257) (pc' := 264) rfl (hb hby at_257) rfl ((if0 _ _).trans (feq (mt (lw_eq _ _).mp hqa)).2) (by decide) (by decide) ?_
            show Steps p.tables e below (T20.setTop (mkF m 264 #[.val (.int p1), .val (.int p2), .val (.int p3), .val (.int p4), .val (.long q5), .second, .val (.int cv), .val (.int av), .val (.int bv), .val (.int ob), .val (.int ra), .val (.int md), .val (.long qq), .second, .val (.ref b11), .val (.int (own_inr qq)), .unset, .unset, .unset] [])) _
            refine XS.iconst X20.here hx rfl (hb hby at_264) ?_
            rw [show own_ua ra qq av = 0 from (if_pos hra).trans (if_neg hqa)] at k; exact k)
      have ac30 : ∀ t, Steps p.tables e below (T20.setTop (mkF m 269 #[.val (.int p1), .val (.int p2), .val (.int p3), .val (.int p4), .val (.long q5), .second, .val (.int cv), .val (.int av), .val (.int bv), .val (.int ob), .val (.int ra), .val (.int md), .val (.long qq), .second, .val (.ref b11), .val (.int (own_inr qq)), .val (.int (own_ua ra qq av)), .unset, .unset] [(.int ob)])) t → Steps p.tables e below (s₁.setTop (entryFrame m #[(.int p1), (.int p2), (.int p3), (.int p4), (.long q5)] maxLocals)) t := fun t k => ac29 t (by
          show Steps p.tables e below (T20.setTop (mkF m 265 #[.val (.int p1), .val (.int p2), .val (.int p3), .val (.int p4), .val (.long q5), .second, .val (.int cv), .val (.int av), .val (.int bv), .val (.int ob), .val (.int ra), .val (.int md), .val (.long qq), .second, .val (.ref b11), .val (.int (own_inr qq)), .unset, .unset, .unset] [(.int (own_ua ra qq av))])) _
          refine XS.istore X20.here hx rfl (hb hby at_265) rfl (l' := #[.val (.int p1), .val (.int p2), .val (.int p3), .val (.int p4), .val (.long q5), .second, .val (.int cv), .val (.int av), .val (.int bv), .val (.int ob), .val (.int ra), .val (.int md), .val (.long qq), .second, .val (.ref b11), .val (.int (own_inr qq)), .val (.int (own_ua ra qq av)), .unset, .unset]) rfl ?_
          show Steps p.tables e below (T20.setTop (mkF m 267 #[.val (.int p1), .val (.int p2), .val (.int p3), .val (.int p4), .val (.long q5), .second, .val (.int cv), .val (.int av), .val (.int bv), .val (.int ob), .val (.int ra), .val (.int md), .val (.long qq), .second, .val (.ref b11), .val (.int (own_inr qq)), .val (.int (own_ua ra qq av)), .unset, .unset] [])) _
          refine XS.iload X20.here hx rfl (hb hby at_267) rfl ?_
          exact k)
      have ac31 : ∀ t, Steps p.tables e below (T20.setTop (mkF m 286 #[.val (.int p1), .val (.int p2), .val (.int p3), .val (.int p4), .val (.long q5), .second, .val (.int cv), .val (.int av), .val (.int bv), .val (.int ob), .val (.int ra), .val (.int md), .val (.long qq), .second, .val (.ref b11), .val (.int (own_inr qq)), .val (.int (own_ua ra qq av)), .unset, .unset] [(.int (own_ub ob qq bv))])) t → Steps p.tables e below (s₁.setTop (entryFrame m #[(.int p1), (.int p2), (.int p3), (.int p4), (.long q5)] maxLocals)) t := fun t k => ac30 t (by
          show Steps p.tables e below (T20.setTop (mkF m 269 #[.val (.int p1), .val (.int p2), .val (.int p3), .val (.int p4), .val (.long q5), .second, .val (.int cv), .val (.int av), .val (.int bv), .val (.int ob), .val (.int ra), .val (.int md), .val (.long qq), .second, .val (.ref b11), .val (.int (own_inr qq)), .val (.int (own_ua ra qq av)), .unset, .unset] [(.int ob)])) _
          refine XS.ifYes X20.here hx rfl (pc0 := 269) (pc' := 285) rfl (hb hby at_269) rfl ((if0 _ _).trans (teq hob0).1) (by decide) (by decide) ?_
          show Steps p.tables e below (T20.setTop (mkF m 285 #[.val (.int p1), .val (.int p2), .val (.int p3), .val (.int p4), .val (.long q5), .second, .val (.int cv), .val (.int av), .val (.int bv), .val (.int ob), .val (.int ra), .val (.int md), .val (.long qq), .second, .val (.ref b11), .val (.int (own_inr qq)), .val (.int (own_ua ra qq av)), .unset, .unset] [])) _
          refine XS.iconst X20.here hx rfl (hb hby at_285) ?_
          rw [show own_ub ob qq bv = 0 from if_pos hob0] at k; exact k)
      have ac32 : ∀ t, Steps p.tables e below (T20.setTop (mkF m 290 #[.val (.int p1), .val (.int p2), .val (.int p3), .val (.int p4), .val (.long q5), .second, .val (.int cv), .val (.int av), .val (.int bv), .val (.int ob), .val (.int ra), .val (.int md), .val (.long qq), .second, .val (.ref b11), .val (.int (own_inr qq)), .val (.int (own_ua ra qq av)), .val (.int (own_ub ob qq bv)), .unset] [(.int (own_inr qq))])) t → Steps p.tables e below (s₁.setTop (entryFrame m #[(.int p1), (.int p2), (.int p3), (.int p4), (.long q5)] maxLocals)) t := fun t k => ac31 t (by
          show Steps p.tables e below (T20.setTop (mkF m 286 #[.val (.int p1), .val (.int p2), .val (.int p3), .val (.int p4), .val (.long q5), .second, .val (.int cv), .val (.int av), .val (.int bv), .val (.int ob), .val (.int ra), .val (.int md), .val (.long qq), .second, .val (.ref b11), .val (.int (own_inr qq)), .val (.int (own_ua ra qq av)), .unset, .unset] [(.int (own_ub ob qq bv))])) _
          refine XS.istore X20.here hx rfl (hb hby at_286) rfl (l' := #[.val (.int p1), .val (.int p2), .val (.int p3), .val (.int p4), .val (.long q5), .second, .val (.int cv), .val (.int av), .val (.int bv), .val (.int ob), .val (.int ra), .val (.int md), .val (.long qq), .second, .val (.ref b11), .val (.int (own_inr qq)), .val (.int (own_ua ra qq av)), .val (.int (own_ub ob qq bv)), .unset]) rfl ?_
          show Steps p.tables e below (T20.setTop (mkF m 288 #[.val (.int p1), .val (.int p2), .val (.int p3), .val (.int p4), .val (.long q5), .second, .val (.int cv), .val (.int av), .val (.int bv), .val (.int ob), .val (.int ra), .val (.int md), .val (.long qq), .second, .val (.ref b11), .val (.int (own_inr qq)), .val (.int (own_ua ra qq av)), .val (.int (own_ub ob qq bv)), .unset] [])) _
          refine XS.iload X20.here hx rfl (hb hby at_288) rfl ?_
          exact k)
      have ac33 : ∀ t, Steps p.tables e below (T20.setTop (mkF m 308 #[.val (.int p1), .val (.int p2), .val (.int p3), .val (.int p4), .val (.long q5), .second, .val (.int cv), .val (.int av), .val (.int bv), .val (.int ob), .val (.int ra), .val (.int md), .val (.long qq), .second, .val (.ref b11), .val (.int (own_inr qq)), .val (.int (own_ua ra qq av)), .val (.int (own_ub ob qq bv)), .unset] [(.int (own_ex (own_inr qq) (own_ua ra qq av) (own_ub ob qq bv)))])) t → Steps p.tables e below (s₁.setTop (entryFrame m #[(.int p1), (.int p2), (.int p3), (.int p4), (.long q5)] maxLocals)) t := fun t k => ac32 t (by
          by_cases x1 : (own_inr qq) = (0 : Int32)
          ·
            show Steps p.tables e below (T20.setTop (mkF m 290 #[.val (.int p1), .val (.int p2), .val (.int p3), .val (.int p4), .val (.long q5), .second, .val (.int cv), .val (.int av), .val (.int bv), .val (.int ob), .val (.int ra), .val (.int md), .val (.long qq), .second, .val (.ref b11), .val (.int (own_inr qq)), .val (.int (own_ua ra qq av)), .val (.int (own_ub ob qq bv)), .unset] [(.int (own_inr qq))])) _
            refine XS.ifYes X20.here hx rfl (pc0 := 290) (pc' := 307) rfl (hb hby at_290) rfl ((if0 _ _).trans (teq x1).1) (by decide) (by decide) ?_
            show Steps p.tables e below (T20.setTop (mkF m 307 #[.val (.int p1), .val (.int p2), .val (.int p3), .val (.int p4), .val (.long q5), .second, .val (.int cv), .val (.int av), .val (.int bv), .val (.int ob), .val (.int ra), .val (.int md), .val (.long qq), .second, .val (.ref b11), .val (.int (own_inr qq)), .val (.int (own_ua ra qq av)), .val (.int (own_ub ob qq bv)), .unset] [])) _
            refine XS.iconst X20.here hx rfl (hb hby at_307) ?_
            rw [show (own_ex (own_inr qq) (own_ua ra qq av) (own_ub ob qq bv)) = 0 from if_pos x1] at k; exact k
          ·
            show Steps p.tables e below (T20.setTop (mkF m 290 #[.val (.int p1), .val (.int p2), .val (.int p3), .val (.int p4), .val (.long q5), .second, .val (.int cv), .val (.int av), .val (.int bv), .val (.int ob), .val (.int ra), .val (.int md), .val (.long qq), .second, .val (.ref b11), .val (.int (own_inr qq)), .val (.int (own_ua ra qq av)), .val (.int (own_ub ob qq bv)), .unset] [(.int (own_inr qq))])) _
            refine XS.ifNo X20.here hx rfl (hb hby at_290) rfl ((if0 _ _).trans (feq x1).1) ?_
            show Steps p.tables e below (T20.setTop (mkF m 293 #[.val (.int p1), .val (.int p2), .val (.int p3), .val (.int p4), .val (.long q5), .second, .val (.int cv), .val (.int av), .val (.int bv), .val (.int ob), .val (.int ra), .val (.int md), .val (.long qq), .second, .val (.ref b11), .val (.int (own_inr qq)), .val (.int (own_ua ra qq av)), .val (.int (own_ub ob qq bv)), .unset] [])) _
            refine XS.iload X20.here hx rfl (hb hby at_293) rfl ?_
            by_cases x2 : (own_ua ra qq av) = (0 : Int32)
            ·
              show Steps p.tables e below (T20.setTop (mkF m 295 #[.val (.int p1), .val (.int p2), .val (.int p3), .val (.int p4), .val (.long q5), .second, .val (.int cv), .val (.int av), .val (.int bv), .val (.int ob), .val (.int ra), .val (.int md), .val (.long qq), .second, .val (.ref b11), .val (.int (own_inr qq)), .val (.int (own_ua ra qq av)), .val (.int (own_ub ob qq bv)), .unset] [(.int (own_ua ra qq av))])) _
              refine XS.ifNo X20.here hx rfl (hb hby at_295) rfl ((if0 _ _).trans (teq x2).2) ?_
              show Steps p.tables e below (T20.setTop (mkF m 298 #[.val (.int p1), .val (.int p2), .val (.int p3), .val (.int p4), .val (.long q5), .second, .val (.int cv), .val (.int av), .val (.int bv), .val (.int ob), .val (.int ra), .val (.int md), .val (.long qq), .second, .val (.ref b11), .val (.int (own_inr qq)), .val (.int (own_ua ra qq av)), .val (.int (own_ub ob qq bv)), .unset] [])) _
              refine XS.iload X20.here hx rfl (hb hby at_298) rfl ?_
              by_cases x3 : (own_ub ob qq bv) = (0 : Int32)
              ·
                show Steps p.tables e below (T20.setTop (mkF m 300 #[.val (.int p1), .val (.int p2), .val (.int p3), .val (.int p4), .val (.long q5), .second, .val (.int cv), .val (.int av), .val (.int bv), .val (.int ob), .val (.int ra), .val (.int md), .val (.long qq), .second, .val (.ref b11), .val (.int (own_inr qq)), .val (.int (own_ua ra qq av)), .val (.int (own_ub ob qq bv)), .unset] [(.int (own_ub ob qq bv))])) _
                refine XS.ifNo X20.here hx rfl (hb hby at_300) rfl ((if0 _ _).trans (teq x3).2) ?_
                show Steps p.tables e below (T20.setTop (mkF m 303 #[.val (.int p1), .val (.int p2), .val (.int p3), .val (.int p4), .val (.long q5), .second, .val (.int cv), .val (.int av), .val (.int bv), .val (.int ob), .val (.int ra), .val (.int md), .val (.long qq), .second, .val (.ref b11), .val (.int (own_inr qq)), .val (.int (own_ua ra qq av)), .val (.int (own_ub ob qq bv)), .unset] [])) _
                refine XS.iconst X20.here hx rfl (hb hby at_303) ?_
                show Steps p.tables e below (T20.setTop (mkF m 304 #[.val (.int p1), .val (.int p2), .val (.int p3), .val (.int p4), .val (.long q5), .second, .val (.int cv), .val (.int av), .val (.int bv), .val (.int ob), .val (.int ra), .val (.int md), .val (.long qq), .second, .val (.ref b11), .val (.int (own_inr qq)), .val (.int (own_ua ra qq av)), .val (.int (own_ub ob qq bv)), .unset] [(.int (1 : Int32))])) _
                refine XS.goto X20.here hx rfl (pc0 := 304) (pc' := 308) rfl (hb hby at_304) (by decide) (by decide) ?_
                rw [show (own_ex (own_inr qq) (own_ua ra qq av) (own_ub ob qq bv)) = 1 from (if_neg x1).trans ((if_pos x2).trans (if_pos x3))] at k; exact k
              ·
                show Steps p.tables e below (T20.setTop (mkF m 300 #[.val (.int p1), .val (.int p2), .val (.int p3), .val (.int p4), .val (.long q5), .second, .val (.int cv), .val (.int av), .val (.int bv), .val (.int ob), .val (.int ra), .val (.int md), .val (.long qq), .second, .val (.ref b11), .val (.int (own_inr qq)), .val (.int (own_ua ra qq av)), .val (.int (own_ub ob qq bv)), .unset] [(.int (own_ub ob qq bv))])) _
                refine XS.ifYes X20.here hx rfl (pc0 := 300) (pc' := 307) rfl (hb hby at_300) rfl ((if0 _ _).trans (feq x3).2) (by decide) (by decide) ?_
                show Steps p.tables e below (T20.setTop (mkF m 307 #[.val (.int p1), .val (.int p2), .val (.int p3), .val (.int p4), .val (.long q5), .second, .val (.int cv), .val (.int av), .val (.int bv), .val (.int ob), .val (.int ra), .val (.int md), .val (.long qq), .second, .val (.ref b11), .val (.int (own_inr qq)), .val (.int (own_ua ra qq av)), .val (.int (own_ub ob qq bv)), .unset] [])) _
                refine XS.iconst X20.here hx rfl (hb hby at_307) ?_
                rw [show (own_ex (own_inr qq) (own_ua ra qq av) (own_ub ob qq bv)) = 0 from (if_neg x1).trans ((if_pos x2).trans (if_neg x3))] at k; exact k
            ·
              show Steps p.tables e below (T20.setTop (mkF m 295 #[.val (.int p1), .val (.int p2), .val (.int p3), .val (.int p4), .val (.long q5), .second, .val (.int cv), .val (.int av), .val (.int bv), .val (.int ob), .val (.int ra), .val (.int md), .val (.long qq), .second, .val (.ref b11), .val (.int (own_inr qq)), .val (.int (own_ua ra qq av)), .val (.int (own_ub ob qq bv)), .unset] [(.int (own_ua ra qq av))])) _
              refine XS.ifYes X20.here hx rfl (pc0 := 295) (pc' := 307) rfl (hb hby at_295) rfl ((if0 _ _).trans (feq x2).2) (by decide) (by decide) ?_
              show Steps p.tables e below (T20.setTop (mkF m 307 #[.val (.int p1), .val (.int p2), .val (.int p3), .val (.int p4), .val (.long q5), .second, .val (.int cv), .val (.int av), .val (.int bv), .val (.int ob), .val (.int ra), .val (.int md), .val (.long qq), .second, .val (.ref b11), .val (.int (own_inr qq)), .val (.int (own_ua ra qq av)), .val (.int (own_ub ob qq bv)), .unset] [])) _
              refine XS.iconst X20.here hx rfl (hb hby at_307) ?_
              rw [show (own_ex (own_inr qq) (own_ua ra qq av) (own_ub ob qq bv)) = 0 from (if_neg x1).trans (if_neg x2)] at k; exact k)
      have ac34 : ∀ t, Steps p.tables e below (T20.setTop (mkF m 314 #[.val (.int p1), .val (.int p2), .val (.int p3), .val (.int p4), .val (.long q5), .second, .val (.int cv), .val (.int av), .val (.int bv), .val (.int ob), .val (.int ra), .val (.int md), .val (.long qq), .second, .val (.ref b11), .val (.int (own_inr qq)), .val (.int (own_ua ra qq av)), .val (.int (own_ub ob qq bv)), .val (.int (own_ex (own_inr qq) (own_ua ra qq av) (own_ub ob qq bv)))] [(.long qq), (.ref b11)])) t → Steps p.tables e below (s₁.setTop (entryFrame m #[(.int p1), (.int p2), (.int p3), (.int p4), (.long q5)] maxLocals)) t := fun t k => ac33 t (by
          show Steps p.tables e below (T20.setTop (mkF m 308 #[.val (.int p1), .val (.int p2), .val (.int p3), .val (.int p4), .val (.long q5), .second, .val (.int cv), .val (.int av), .val (.int bv), .val (.int ob), .val (.int ra), .val (.int md), .val (.long qq), .second, .val (.ref b11), .val (.int (own_inr qq)), .val (.int (own_ua ra qq av)), .val (.int (own_ub ob qq bv)), .unset] [(.int (own_ex (own_inr qq) (own_ua ra qq av) (own_ub ob qq bv)))])) _
          refine XS.istore X20.here hx rfl (hb hby at_308) rfl (l' := #[.val (.int p1), .val (.int p2), .val (.int p3), .val (.int p4), .val (.long q5), .second, .val (.int cv), .val (.int av), .val (.int bv), .val (.int ob), .val (.int ra), .val (.int md), .val (.long qq), .second, .val (.ref b11), .val (.int (own_inr qq)), .val (.int (own_ua ra qq av)), .val (.int (own_ub ob qq bv)), .val (.int (own_ex (own_inr qq) (own_ua ra qq av) (own_ub ob qq bv)))]) rfl ?_
          show Steps p.tables e below (T20.setTop (mkF m 310 #[.val (.int p1), .val (.int p2), .val (.int p3), .val (.int p4), .val (.long q5), .second, .val (.int cv), .val (.int av), .val (.int bv), .val (.int ob), .val (.int ra), .val (.int md), .val (.long qq), .second, .val (.ref b11), .val (.int (own_inr qq)), .val (.int (own_ua ra qq av)), .val (.int (own_ub ob qq bv)), .val (.int (own_ex (own_inr qq) (own_ua ra qq av) (own_ub ob qq bv)))] [])) _
          refine XS.aload X20.here hx rfl (hb hby at_310) rfl rfl ?_
          show Steps p.tables e below (T20.setTop (mkF m 312 #[.val (.int p1), .val (.int p2), .val (.int p3), .val (.int p4), .val (.long q5), .second, .val (.int cv), .val (.int av), .val (.int bv), .val (.int ob), .val (.int ra), .val (.int md), .val (.long qq), .second, .val (.ref b11), .val (.int (own_inr qq)), .val (.int (own_ua ra qq av)), .val (.int (own_ub ob qq bv)), .val (.int (own_ex (own_inr qq) (own_ua ra qq av) (own_ub ob qq bv)))] [(.ref b11)])) _
          refine XS.lload X20.here hx rfl (hb hby at_312) rfl ?_
          exact k)
      obtain ⟨cq35, kq35, q35a, q35b, q35c⟩ := isOf hZ rfl HB20.1
      obtain ⟨_, _, ⟨T35, L35, k35, n35⟩, -, X35, ⟨Lc35, hQ35, l35, y35, z35⟩, st35⟩ := X20.virtualBack hx (y := (⟨"com/example/twinbase/twinbase/CellSpace", "isFree", "(J)Z"⟩ : MethodName)) (z := (⟨"com/example/twinbase/twinbase/CellSpace", "isFree", "(J)Z"⟩ : MethodName)) hown (mvT hZ (hw _ (List.mem_of_getElem? (i := 75) rfl))) (mvT hZ (hw _ (List.mem_of_getElem? (i := 76) rfl))) (notFace_of_selects (args := #[]) (mvT hZ (hw _ (List.mem_of_getElem? (i := 78) rfl)))) (mvT hZ (hw _ (List.mem_of_getElem? (i := 78) rfl))) (mvT hZ (hw _ (List.mem_of_getElem? (i := 77) rfl))) (by decide) (backOf (W := 0) (rm12 l Z a0 hw [] b11 qq _ _ bC20 bU20 bF20 bR15 ln20 _ (fun i => if i = avn / 64 then (fun _ => (0 : Int64)) i ||| own_sh av else (fun _ => (0 : Int64)) i) _ _ T20.heap n0 Z20 HB20) hZ (hw _ (List.mem_of_getElem? (i := 79) rfl)) (hw _ (List.mem_of_getElem? (i := 2) rfl)) (by decide) (by decide)) q35a q35c (g := (mkF m 314 #[.val (.int p1), .val (.int p2), .val (.int p3), .val (.int p4), .val (.long q5), .second, .val (.int cv), .val (.int av), .val (.int bv), .val (.int ob), .val (.int ra), .val (.int md), .val (.long qq), .second, .val (.ref b11), .val (.int (own_inr qq)), .val (.int (own_ua ra qq av)), .val (.int (own_ub ob qq bv)), .val (.int (own_ex (own_inr qq) (own_ua ra qq av) (own_ub ob qq bv)))] [(.long qq), (.ref b11)])) rfl (by rw [hml]; rfl) (Steps.refl _) (argsL := [(.long qq)]) (rest := []) (lenOf pd_9 rfl) rfl (by show 2 * 0 + _ ≤ _; exact Nat.le_of_eq rfl) (hb hby at_314) (fun _ _ => ⟨rfl, rfl, (by decide : 11 + 0 ≤ _), (by decide : 2120 + 0 ≤ _)⟩)
      dsimp only [Pt.U, Pt.locs, Pt.cells, Pt.slots] at X35 l35 y35 z35 st35 hQ35
      subst l35 y35 z35
      obtain ⟨rfl, N35q, Qe35⟩ := hQ35
      have N35 := Fr.app N20 N35q
      have ac36 : ∀ t, Steps p.tables e below (T35.setTop (mkF m 317 #[.val (.int p1), .val (.int p2), .val (.int p3), .val (.int p4), .val (.long q5), .second, .val (.int cv), .val (.int av), .val (.int bv), .val (.int ob), .val (.int ra), .val (.int md), .val (.long qq), .second, .val (.ref b11), .val (.int (own_inr qq)), .val (.int (own_ua ra qq av)), .val (.int (own_ub ob qq bv)), .val (.int (own_ex (own_inr qq) (own_ua ra qq av) (own_ub ob qq bv)))] [(.int (own_fr qq ln20 (fun i => if i = avn / 64 then (fun _ => (0 : Int64)) i ||| own_sh av else (fun _ => (0 : Int64)) i)))])) t → Steps p.tables e below (s₁.setTop (entryFrame m #[(.int p1), (.int p2), (.int p3), (.int p4), (.long q5)] maxLocals)) t := fun t k => ac34 t (st35.trans k)
      have hlast : own_fr qq ln20 (fun i => if i = avn / 64 then (fun _ => (0 : Int64)) i ||| own_sh av else (fun _ => (0 : Int64)) i) = (own_ex (own_inr qq) (own_ua ra qq av) (own_ub ob qq bv)) := own_last hL2 havn hbvn hA2 hB2 huF (fun k => by simp [hra, hob0])
      have ac37 : ∀ t, Steps p.tables e below (T35.setTop (mkF m 327 #[.val (.int p1), .val (.int p2), .val (.int p3), .val (.int p4), .val (.long q5), .second, .val (.int cv), .val (.int av), .val (.int bv), .val (.int ob), .val (.int ra), .val (.int md), .val (.long qq), .second, .val (.ref b11), .val (.int (own_inr qq)), .val (.int (own_ua ra qq av)), .val (.int (own_ub ob qq bv)), .val (.int (own_ex (own_inr qq) (own_ua ra qq av) (own_ub ob qq bv)))] [(.int (1 : Int32))])) t → Steps p.tables e below (s₁.setTop (entryFrame m #[(.int p1), (.int p2), (.int p3), (.int p4), (.long q5)] maxLocals)) t := fun t k => ac36 t (by
          show Steps p.tables e below (T35.setTop (mkF m 317 #[.val (.int p1), .val (.int p2), .val (.int p3), .val (.int p4), .val (.long q5), .second, .val (.int cv), .val (.int av), .val (.int bv), .val (.int ob), .val (.int ra), .val (.int md), .val (.long qq), .second, .val (.ref b11), .val (.int (own_inr qq)), .val (.int (own_ua ra qq av)), .val (.int (own_ub ob qq bv)), .val (.int (own_ex (own_inr qq) (own_ua ra qq av) (own_ub ob qq bv)))] [(.int (own_fr qq ln20 (fun i => if i = avn / 64 then (fun _ => (0 : Int64)) i ||| own_sh av else (fun _ => (0 : Int64)) i)))])) _
          refine XS.iload X35.here hx rfl (hb hby at_317) rfl ?_
          show Steps p.tables e below (T35.setTop (mkF m 319 #[.val (.int p1), .val (.int p2), .val (.int p3), .val (.int p4), .val (.long q5), .second, .val (.int cv), .val (.int av), .val (.int bv), .val (.int ob), .val (.int ra), .val (.int md), .val (.long qq), .second, .val (.ref b11), .val (.int (own_inr qq)), .val (.int (own_ua ra qq av)), .val (.int (own_ub ob qq bv)), .val (.int (own_ex (own_inr qq) (own_ua ra qq av) (own_ub ob qq bv)))] [(.int (own_ex (own_inr qq) (own_ua ra qq av) (own_ub ob qq bv))), (.int (own_fr qq ln20 (fun i => if i = avn / 64 then (fun _ => (0 : Int64)) i ||| own_sh av else (fun _ => (0 : Int64)) i)))])) _
          refine XS.icmpNo X35.here hx rfl (hb hby at_319) rfl (teq hlast).2 ?_
          show Steps p.tables e below (T35.setTop (mkF m 322 #[.val (.int p1), .val (.int p2), .val (.int p3), .val (.int p4), .val (.long q5), .second, .val (.int cv), .val (.int av), .val (.int bv), .val (.int ob), .val (.int ra), .val (.int md), .val (.long qq), .second, .val (.ref b11), .val (.int (own_inr qq)), .val (.int (own_ua ra qq av)), .val (.int (own_ub ob qq bv)), .val (.int (own_ex (own_inr qq) (own_ua ra qq av) (own_ub ob qq bv)))] [])) _
          refine XS.iconst X35.here hx rfl (hb hby at_322) ?_
          show Steps p.tables e below (T35.setTop (mkF m 323 #[.val (.int p1), .val (.int p2), .val (.int p3), .val (.int p4), .val (.long q5), .second, .val (.int cv), .val (.int av), .val (.int bv), .val (.int ob), .val (.int ra), .val (.int md), .val (.long qq), .second, .val (.ref b11), .val (.int (own_inr qq)), .val (.int (own_ua ra qq av)), .val (.int (own_ub ob qq bv)), .val (.int (own_ex (own_inr qq) (own_ua ra qq av) (own_ub ob qq bv)))] [(.int (1 : Int32))])) _
          refine XS.goto X35.here hx rfl (pc0 := 323) (pc' := 327) rfl (hb hby at_323) (by decide) (by decide) ?_
          exact k)
      obtain ⟨fs, hr, hrun, hended, hW, hsame⟩ := X35.leave (v := some (.int (1 : Int32))) (fun h => by rw [Bd.returns] at h; cases h) (BodyLoose.notSynchronized Bd)
      refine ⟨_, _, ac37 _ ?_, hrun, hended, _, _, rfl, ?_, ⟨_, rfl⟩, hW, hsame.mono (by decide) (by decide)⟩
      · show Steps p.tables e below (T35.setTop (mkF m 327 #[.val (.int p1), .val (.int p2), .val (.int p3), .val (.int p4), .val (.long q5), .second, .val (.int cv), .val (.int av), .val (.int bv), .val (.int ob), .val (.int ra), .val (.int md), .val (.long qq), .second, .val (.ref b11), .val (.int (own_inr qq)), .val (.int (own_ua ra qq av)), .val (.int (own_ub ob qq bv)), .val (.int (own_ex (own_inr qq) (own_ua ra qq av) (own_ub ob qq bv)))] [(.int (1 : Int32))])) _
        exact retN X35 hx (t := .boolean) Bd.returns (by simp) (hb hby at_327) hr
      · show Q0 Z p1 p2 p3 p4 q5 frv h0 n0 _ T35.heap _
        rw [Qe35]
        exact ⟨rfl, N35⟩
    ·
      have ac38 : ∀ t, Steps p.tables e below (T20.setTop (mkF m 220 #[.val (.int p1), .val (.int p2), .val (.int p3), .val (.int p4), .val (.long q5), .second, .val (.int cv), .val (.int av), .val (.int bv), .val (.int ob), .val (.int ra), .val (.int md), .val (.long qq), .second, .val (.ref b11), .unset, .unset, .unset, .unset] [(.int av), (.ref b11)])) t → Steps p.tables e below (s₁.setTop (entryFrame m #[(.int p1), (.int p2), (.int p3), (.int p4), (.long q5)] maxLocals)) t := fun t k => ac25 t (by
          show Steps p.tables e below (T20.setTop (mkF m 213 #[.val (.int p1), .val (.int p2), .val (.int p3), .val (.int p4), .val (.long q5), .second, .val (.int cv), .val (.int av), .val (.int bv), .val (.int ob), .val (.int ra), .val (.int md), .val (.long qq), .second, .val (.ref b11), .unset, .unset, .unset, .unset] [(.int ra)])) _
          refine XS.ifNo X20.here hx rfl (hb hby at_213) rfl ((if0 _ _).trans (feq hra).1) ?_
          show Steps p.tables e below (T20.setTop (mkF m 216 #[.val (.int p1), .val (.int p2), .val (.int p3), .val (.int p4), .val (.long q5), .second, .val (.int cv), .val (.int av), .val (.int bv), .val (.int ob), .val (.int ra), .val (.int md), .val (.long qq), .second, .val (.ref b11), .unset, .unset, .unset, .unset] [])) _
          refine XS.aload X20.here hx rfl (hb hby at_216) rfl rfl ?_
          show Steps p.tables e below (T20.setTop (mkF m 218 #[.val (.int p1), .val (.int p2), .val (.int p3), .val (.int p4), .val (.long q5), .second, .val (.int cv), .val (.int av), .val (.int bv), .val (.int ob), .val (.int ra), .val (.int md), .val (.long qq), .second, .val (.ref b11), .unset, .unset, .unset, .unset] [(.ref b11)])) _
          refine XS.iload X20.here hx rfl (hb hby at_218) rfl ?_
          exact k)
      obtain ⟨cq39, kq39, q39a, q39b, q39c⟩ := isOf hZ rfl HB20.1
      obtain ⟨_, _, ⟨T39, L39, k39, n39⟩, -, X39, ⟨Lc39, hQ39, l39, y39, z39⟩, st39⟩ := X20.virtualBack hx (y := (⟨"com/example/twinbase/twinbase/CellSpace", "release", "(I)V"⟩ : MethodName)) (z := (⟨"com/example/twinbase/twinbase/CellSpace", "release", "(I)V"⟩ : MethodName)) hown (mvT hZ (hw _ (List.mem_of_getElem? (i := 84) rfl))) (mvT hZ (hw _ (List.mem_of_getElem? (i := 85) rfl))) (notFace_of_selects (args := #[]) (mvT hZ (hw _ (List.mem_of_getElem? (i := 87) rfl)))) (mvT hZ (hw _ (List.mem_of_getElem? (i := 87) rfl))) (mvT hZ (hw _ (List.mem_of_getElem? (i := 86) rfl))) (by decide) (backOf (W := 0) (rm13 l Z a0 hw [] b11 av _ _ bC20 bU20 bF20 bR15 ln20 _ (fun i => if i = avn / 64 then (fun _ => (0 : Int64)) i ||| own_sh av else (fun _ => (0 : Int64)) i) _ _ avn frv T20.heap n0 Z20 HB20 havn hA2 g_b11 Sf22) hZ (hw _ (List.mem_of_getElem? (i := 88) rfl)) (hw _ (List.mem_of_getElem? (i := 2) rfl)) (by decide) (by decide)) q39a q39c (g := (mkF m 220 #[.val (.int p1), .val (.int p2), .val (.int p3), .val (.int p4), .val (.long q5), .second, .val (.int cv), .val (.int av), .val (.int bv), .val (.int ob), .val (.int ra), .val (.int md), .val (.long qq), .second, .val (.ref b11), .unset, .unset, .unset, .unset] [(.int av), (.ref b11)])) rfl (by rw [hml]; rfl) (Steps.refl _) (argsL := [(.int av)]) (rest := []) (lenOf pd_0 rfl) rfl (by show 2 * 0 + _ ≤ _; exact Nat.le_of_eq rfl) (hb hby at_220) (fun _ _ => ⟨rfl, rfl, (by decide : 11 + 0 ≤ _), (by decide : 2120 + 0 ≤ _)⟩)
      dsimp only [Pt.U, Pt.locs, Pt.cells, Pt.slots] at X39 l39 y39 z39 st39 hQ39
      subst l39 y39 z39
      obtain ⟨fC39, ff39, r39, lo39, rfl, N39q, K39q, HB39⟩ := hQ39
      have N39 := Fr.app N20 N39q
      have Ef40 := HB20.1.keep K39q
      have Sf41 := own_Sta_keep1 Sf22 K39q (allS (own_cellE HB20.1) (allS (own_cellV HB20.2.2.2.2.2.2.2.1) (allS (own_cellV HB20.2.2.2.2.2.2.2.2.1) (allS (own_cellV HB20.2.2.2.2.2.2.2.2.2.1) (allS (own_cellV HB20.2.2.2.2.2.2.2.2.2.2.1) all0)))))
      have Z39 : n0 ≤ T39.heap.size := Nat.le_trans Z20 K39q.1
      have ac42 : ∀ t, Steps p.tables e below (T39.setTop (mkF m 223 #[.val (.int p1), .val (.int p2), .val (.int p3), .val (.int p4), .val (.long q5), .second, .val (.int cv), .val (.int av), .val (.int bv), .val (.int ob), .val (.int ra), .val (.int md), .val (.long qq), .second, .val (.ref b11), .unset, .unset, .unset, .unset] [])) t → Steps p.tables e below (s₁.setTop (entryFrame m #[(.int p1), (.int p2), (.int p3), (.int p4), (.long q5)] maxLocals)) t := fun t k => ac38 t (st39.trans k)
      have huG := own_U_del havn huF
      have ac43 : ∀ t, Steps p.tables e below (T39.setTop (mkF m 227 #[.val (.int p1), .val (.int p2), .val (.int p3), .val (.int p4), .val (.long q5), .second, .val (.int cv), .val (.int av), .val (.int bv), .val (.int ob), .val (.int ra), .val (.int md), .val (.long qq), .second, .val (.ref b11), .unset, .unset, .unset, .unset] [(.int (lcmpW qq (0 : Int64)))])) t → Steps p.tables e below (s₁.setTop (entryFrame m #[(.int p1), (.int p2), (.int p3), (.int p4), (.long q5)] maxLocals)) t := fun t k => ac42 t (by
          show Steps p.tables e below (T39.setTop (mkF m 223 #[.val (.int p1), .val (.int p2), .val (.int p3), .val (.int p4), .val (.long q5), .second, .val (.int cv), .val (.int av), .val (.int bv), .val (.int ob), .val (.int ra), .val (.int md), .val (.long qq), .second, .val (.ref b11), .unset, .unset, .unset, .unset] [])) _
          refine XS.lload X39.here hx rfl (hb hby at_223) rfl ?_
          show Steps p.tables e below (T39.setTop (mkF m 225 #[.val (.int p1), .val (.int p2), .val (.int p3), .val (.int p4), .val (.long q5), .second, .val (.int cv), .val (.int av), .val (.int bv), .val (.int ob), .val (.int ra), .val (.int md), .val (.long qq), .second, .val (.ref b11), .unset, .unset, .unset, .unset] [(.long qq)])) _
          refine XS.lconst X39.here hx rfl (hb hby at_225) ?_
          show Steps p.tables e below (T39.setTop (mkF m 226 #[.val (.int p1), .val (.int p2), .val (.int p3), .val (.int p4), .val (.long q5), .second, .val (.int cv), .val (.int av), .val (.int bv), .val (.int ob), .val (.int ra), .val (.int md), .val (.long qq), .second, .val (.ref b11), .unset, .unset, .unset, .unset] [(.long (0 : Int64)), (.long qq)])) _
          refine XS.lcmp X39.here hx rfl (hb hby at_226) rfl ?_
          exact k)
      have ac44 : ∀ t, Steps p.tables e below (T39.setTop (mkF m 244 #[.val (.int p1), .val (.int p2), .val (.int p3), .val (.int p4), .val (.long q5), .second, .val (.int cv), .val (.int av), .val (.int bv), .val (.int ob), .val (.int ra), .val (.int md), .val (.long qq), .second, .val (.ref b11), .unset, .unset, .unset, .unset] [(.int (own_inr qq))])) t → Steps p.tables e below (s₁.setTop (entryFrame m #[(.int p1), (.int p2), (.int p3), (.int p4), (.long q5)] maxLocals)) t := fun t k => ac43 t (by
          by_cases hq0 : qq < (0 : Int64)
          ·
            show Steps p.tables e below (T39.setTop (mkF m 227 #[.val (.int p1), .val (.int p2), .val (.int p3), .val (.int p4), .val (.long q5), .second, .val (.int cv), .val (.int av), .val (.int bv), .val (.int ob), .val (.int ra), .val (.int md), .val (.long qq), .second, .val (.ref b11), .unset, .unset, .unset, .unset] [(.int (lcmpW qq (0 : Int64)))])) _
            refine XS.ifYes X39.here hx rfl (pc0 := 227) (pc' := 243) rfl (hb hby at_227) rfl ((if0 _ _).trans (tlt ((lw_lt _ _).mpr hq0)).1) (by decide) (by decide) ?_
            show Steps p.tables e below (T39.setTop (mkF m 243 #[.val (.int p1), .val (.int p2), .val (.int p3), .val (.int p4), .val (.long q5), .second, .val (.int cv), .val (.int av), .val (.int bv), .val (.int ob), .val (.int ra), .val (.int md), .val (.long qq), .second, .val (.ref b11), .unset, .unset, .unset, .unset] [])) _
            refine XS.iconst X39.here hx rfl (hb hby at_243) ?_
            rw [show own_inr qq = 0 from if_pos hq0] at k; exact k
          ·
            show Steps p.tables e below (T39.setTop (mkF m 227 #[.val (.int p1), .val (.int p2), .val (.int p3), .val (.int p4), .val (.long q5), .second, .val (.int cv), .val (.int av), .val (.int bv), .val (.int ob), .val (.int ra), .val (.int md), .val (.long qq), .second, .val (.ref b11), .unset, .unset, .unset, .unset] [(.int (lcmpW qq (0 : Int64)))])) _
            refine XS.ifNo X39.here hx rfl (hb hby at_227) rfl ((if0 _ _).trans (flt (mt (lw_lt _ _).mp hq0)).1) ?_
            show Steps p.tables e below (T39.setTop (mkF m 230 #[.val (.int p1), .val (.int p2), .val (.int p3), .val (.int p4), .val (.long q5), .second, .val (.int cv), .val (.int av), .val (.int bv), .val (.int ob), .val (.int ra), .val (.int md), .val (.long qq), .second, .val (.ref b11), .unset, .unset, .unset, .unset] [])) _
            refine XS.lload X39.here hx rfl (hb hby at_230) rfl ?_
            show Steps p.tables e below (T39.setTop (mkF m 232 #[.val (.int p1), .val (.int p2), .val (.int p3), .val (.int p4), .val (.long q5), .second, .val (.int cv), .val (.int av), .val (.int bv), .val (.int ob), .val (.int ra), .val (.int md), .val (.long qq), .second, .val (.ref b11), .unset, .unset, .unset, .unset] [(.long qq)])) _
            refine X39.ldc2Long hx hown (mvT hZ (hw _ (List.mem_of_getElem? (i := 82) rfl))) (g := (mkF m 232 #[.val (.int p1), .val (.int p2), .val (.int p3), .val (.int p4), .val (.long q5), .second, .val (.int cv), .val (.int av), .val (.int bv), .val (.int ob), .val (.int ra), .val (.int md), .val (.long qq), .second, .val (.ref b11), .unset, .unset, .unset, .unset] [(.long qq)])) rfl (hb hby at_232) _ ?_
            show Steps p.tables e below (T39.setTop (mkF m 235 #[.val (.int p1), .val (.int p2), .val (.int p3), .val (.int p4), .val (.long q5), .second, .val (.int cv), .val (.int av), .val (.int bv), .val (.int ob), .val (.int ra), .val (.int md), .val (.long qq), .second, .val (.ref b11), .unset, .unset, .unset, .unset] [(.long (2147483646 : Int64)), (.long qq)])) _
            refine XS.lcmp X39.here hx rfl (hb hby at_235) rfl ?_
            by_cases hq1 : qq < (2147483646 : Int64)
            ·
              show Steps p.tables e below (T39.setTop (mkF m 236 #[.val (.int p1), .val (.int p2), .val (.int p3), .val (.int p4), .val (.long q5), .second, .val (.int cv), .val (.int av), .val (.int bv), .val (.int ob), .val (.int ra), .val (.int md), .val (.long qq), .second, .val (.ref b11), .unset, .unset, .unset, .unset] [(.int (lcmpW qq (2147483646 : Int64)))])) _
              refine XS.ifNo X39.here hx rfl (hb hby at_236) rfl ((if0 _ _).trans (tlt ((lw_lt _ _).mpr hq1)).2.1) ?_
              show Steps p.tables e below (T39.setTop (mkF m 239 #[.val (.int p1), .val (.int p2), .val (.int p3), .val (.int p4), .val (.long q5), .second, .val (.int cv), .val (.int av), .val (.int bv), .val (.int ob), .val (.int ra), .val (.int md), .val (.long qq), .second, .val (.ref b11), .unset, .unset, .unset, .unset] [])) _
              refine XS.iconst X39.here hx rfl (hb hby at_239) ?_
              show Steps p.tables e below (T39.setTop (mkF m 240 #[.val (.int p1), .val (.int p2), .val (.int p3), .val (.int p4), .val (.long q5), .second, .val (.int cv), .val (.int av), .val (.int bv), .val (.int ob), .val (.int ra), .val (.int md), .val (.long qq), .second, .val (.ref b11), .unset, .unset, .unset, .unset] [(.int (1 : Int32))])) _
              refine XS.goto X39.here hx rfl (pc0 := 240) (pc' := 244) rfl (hb hby at_240) (by decide) (by decide) ?_
              rw [show own_inr qq = 1 from (if_neg hq0).trans (if_pos hq1)] at k; exact k
            ·
              show Steps p.tables e below (T39.setTop (mkF m 236 #[.val (.int p1), .val (.int p2), .val (.int p3), .val (.int p4), .val (.long q5), .second, .val (.int cv), .val (.int av), .val (.int bv), .val (.int ob), .val (.int ra), .val (.int md), .val (.long qq), .second, .val (.ref b11), .unset, .unset, .unset, .unset] [(.int (lcmpW qq (2147483646 : Int64)))])) _
              refine XS.ifYes X39.here hx rfl (pc0 := 236) (pc' := 243) rfl (hb hby at_236) rfl ((if0 _ _).trans (flt (mt (lw_lt _ _).mp hq1)).2.1) (by decide) (by decide) ?_
              show Steps p.tables e below (T39.setTop (mkF m 243 #[.val (.int p1), .val (.int p2), .val (.int p3), .val (.int p4), .val (.long q5), .second, .val (.int cv), .val (.int av), .val (.int bv), .val (.int ob), .val (.int ra), .val (.int md), .val (.long qq), .second, .val (.ref b11), .unset, .unset, .unset, .unset] [])) _
              refine XS.iconst X39.here hx rfl (hb hby at_243) ?_
              rw [show own_inr qq = 0 from (if_neg hq0).trans (if_neg hq1)] at k; exact k)
      have ac45 : ∀ t, Steps p.tables e below (T39.setTop (mkF m 248 #[.val (.int p1), .val (.int p2), .val (.int p3), .val (.int p4), .val (.long q5), .second, .val (.int cv), .val (.int av), .val (.int bv), .val (.int ob), .val (.int ra), .val (.int md), .val (.long qq), .second, .val (.ref b11), .val (.int (own_inr qq)), .unset, .unset, .unset] [(.int ra)])) t → Steps p.tables e below (s₁.setTop (entryFrame m #[(.int p1), (.int p2), (.int p3), (.int p4), (.long q5)] maxLocals)) t := fun t k => ac44 t (by
          show Steps p.tables e below (T39.setTop (mkF m 244 #[.val (.int p1), .val (.int p2), .val (.int p3), .val (.int p4), .val (.long q5), .second, .val (.int cv), .val (.int av), .val (.int bv), .val (.int ob), .val (.int ra), .val (.int md), .val (.long qq), .second, .val (.ref b11), .unset, .unset, .unset, .unset] [(.int (own_inr qq))])) _
          refine XS.istore X39.here hx rfl (hb hby at_244) rfl (l' := #[.val (.int p1), .val (.int p2), .val (.int p3), .val (.int p4), .val (.long q5), .second, .val (.int cv), .val (.int av), .val (.int bv), .val (.int ob), .val (.int ra), .val (.int md), .val (.long qq), .second, .val (.ref b11), .val (.int (own_inr qq)), .unset, .unset, .unset]) rfl ?_
          show Steps p.tables e below (T39.setTop (mkF m 246 #[.val (.int p1), .val (.int p2), .val (.int p3), .val (.int p4), .val (.long q5), .second, .val (.int cv), .val (.int av), .val (.int bv), .val (.int ob), .val (.int ra), .val (.int md), .val (.long qq), .second, .val (.ref b11), .val (.int (own_inr qq)), .unset, .unset, .unset] [])) _
          refine XS.iload X39.here hx rfl (hb hby at_246) rfl ?_
          exact k)
      have ac46 : ∀ t, Steps p.tables e below (T39.setTop (mkF m 265 #[.val (.int p1), .val (.int p2), .val (.int p3), .val (.int p4), .val (.long q5), .second, .val (.int cv), .val (.int av), .val (.int bv), .val (.int ob), .val (.int ra), .val (.int md), .val (.long qq), .second, .val (.ref b11), .val (.int (own_inr qq)), .unset, .unset, .unset] [(.int (own_ua ra qq av))])) t → Steps p.tables e below (s₁.setTop (entryFrame m #[(.int p1), (.int p2), (.int p3), (.int p4), (.long q5)] maxLocals)) t := fun t k => ac45 t (by
          show Steps p.tables e below (T39.setTop (mkF m 248 #[.val (.int p1), .val (.int p2), .val (.int p3), .val (.int p4), .val (.long q5), .second, .val (.int cv), .val (.int av), .val (.int bv), .val (.int ob), .val (.int ra), .val (.int md), .val (.long qq), .second, .val (.ref b11), .val (.int (own_inr qq)), .unset, .unset, .unset] [(.int ra)])) _
          refine XS.ifYes X39.here hx rfl (pc0 := 248) (pc' := 264) rfl (hb hby at_248) rfl ((if0 _ _).trans (feq hra).2) (by decide) (by decide) ?_
          show Steps p.tables e below (T39.setTop (mkF m 264 #[.val (.int p1), .val (.int p2), .val (.int p3), .val (.int p4), .val (.long q5), .second, .val (.int cv), .val (.int av), .val (.int bv), .val (.int ob), .val (.int ra), .val (.int md), .val (.long qq), .second, .val (.ref b11), .val (.int (own_inr qq)), .unset, .unset, .unset] [])) _
          refine XS.iconst X39.here hx rfl (hb hby at_264) ?_
          rw [show own_ua ra qq av = 0 from if_neg hra] at k; exact k)
      have ac47 : ∀ t, Steps p.tables e below (T39.setTop (mkF m 269 #[.val (.int p1), .val (.int p2), .val (.int p3), .val (.int p4), .val (.long q5), .second, .val (.int cv), .val (.int av), .val (.int bv), .val (.int ob), .val (.int ra), .val (.int md), .val (.long qq), .second, .val (.ref b11), .val (.int (own_inr qq)), .val (.int (own_ua ra qq av)), .unset, .unset] [(.int ob)])) t → Steps p.tables e below (s₁.setTop (entryFrame m #[(.int p1), (.int p2), (.int p3), (.int p4), (.long q5)] maxLocals)) t := fun t k => ac46 t (by
          show Steps p.tables e below (T39.setTop (mkF m 265 #[.val (.int p1), .val (.int p2), .val (.int p3), .val (.int p4), .val (.long q5), .second, .val (.int cv), .val (.int av), .val (.int bv), .val (.int ob), .val (.int ra), .val (.int md), .val (.long qq), .second, .val (.ref b11), .val (.int (own_inr qq)), .unset, .unset, .unset] [(.int (own_ua ra qq av))])) _
          refine XS.istore X39.here hx rfl (hb hby at_265) rfl (l' := #[.val (.int p1), .val (.int p2), .val (.int p3), .val (.int p4), .val (.long q5), .second, .val (.int cv), .val (.int av), .val (.int bv), .val (.int ob), .val (.int ra), .val (.int md), .val (.long qq), .second, .val (.ref b11), .val (.int (own_inr qq)), .val (.int (own_ua ra qq av)), .unset, .unset]) rfl ?_
          show Steps p.tables e below (T39.setTop (mkF m 267 #[.val (.int p1), .val (.int p2), .val (.int p3), .val (.int p4), .val (.long q5), .second, .val (.int cv), .val (.int av), .val (.int bv), .val (.int ob), .val (.int ra), .val (.int md), .val (.long qq), .second, .val (.ref b11), .val (.int (own_inr qq)), .val (.int (own_ua ra qq av)), .unset, .unset] [])) _
          refine XS.iload X39.here hx rfl (hb hby at_267) rfl ?_
          exact k)
      have ac48 : ∀ t, Steps p.tables e below (T39.setTop (mkF m 286 #[.val (.int p1), .val (.int p2), .val (.int p3), .val (.int p4), .val (.long q5), .second, .val (.int cv), .val (.int av), .val (.int bv), .val (.int ob), .val (.int ra), .val (.int md), .val (.long qq), .second, .val (.ref b11), .val (.int (own_inr qq)), .val (.int (own_ua ra qq av)), .unset, .unset] [(.int (own_ub ob qq bv))])) t → Steps p.tables e below (s₁.setTop (entryFrame m #[(.int p1), (.int p2), (.int p3), (.int p4), (.long q5)] maxLocals)) t := fun t k => ac47 t (by
          show Steps p.tables e below (T39.setTop (mkF m 269 #[.val (.int p1), .val (.int p2), .val (.int p3), .val (.int p4), .val (.long q5), .second, .val (.int cv), .val (.int av), .val (.int bv), .val (.int ob), .val (.int ra), .val (.int md), .val (.long qq), .second, .val (.ref b11), .val (.int (own_inr qq)), .val (.int (own_ua ra qq av)), .unset, .unset] [(.int ob)])) _
          refine XS.ifYes X39.here hx rfl (pc0 := 269) (pc' := 285) rfl (hb hby at_269) rfl ((if0 _ _).trans (teq hob0).1) (by decide) (by decide) ?_
          show Steps p.tables e below (T39.setTop (mkF m 285 #[.val (.int p1), .val (.int p2), .val (.int p3), .val (.int p4), .val (.long q5), .second, .val (.int cv), .val (.int av), .val (.int bv), .val (.int ob), .val (.int ra), .val (.int md), .val (.long qq), .second, .val (.ref b11), .val (.int (own_inr qq)), .val (.int (own_ua ra qq av)), .unset, .unset] [])) _
          refine XS.iconst X39.here hx rfl (hb hby at_285) ?_
          rw [show own_ub ob qq bv = 0 from if_pos hob0] at k; exact k)
      have ac49 : ∀ t, Steps p.tables e below (T39.setTop (mkF m 290 #[.val (.int p1), .val (.int p2), .val (.int p3), .val (.int p4), .val (.long q5), .second, .val (.int cv), .val (.int av), .val (.int bv), .val (.int ob), .val (.int ra), .val (.int md), .val (.long qq), .second, .val (.ref b11), .val (.int (own_inr qq)), .val (.int (own_ua ra qq av)), .val (.int (own_ub ob qq bv)), .unset] [(.int (own_inr qq))])) t → Steps p.tables e below (s₁.setTop (entryFrame m #[(.int p1), (.int p2), (.int p3), (.int p4), (.long q5)] maxLocals)) t := fun t k => ac48 t (by
          show Steps p.tables e below (T39.setTop (mkF m 286 #[.val (.int p1), .val (.int p2), .val (.int p3), .val (.int p4), .val (.long q5), .second, .val (.int cv), .val (.int av), .val (.int bv), .val (.int ob), .val (.int ra), .val (.int md), .val (.long qq), .second, .val (.ref b11), .val (.int (own_inr qq)), .val (.int (own_ua ra qq av)), .unset, .unset] [(.int (own_ub ob qq bv))])) _
          refine XS.istore X39.here hx rfl (hb hby at_286) rfl (l' := #[.val (.int p1), .val (.int p2), .val (.int p3), .val (.int p4), .val (.long q5), .second, .val (.int cv), .val (.int av), .val (.int bv), .val (.int ob), .val (.int ra), .val (.int md), .val (.long qq), .second, .val (.ref b11), .val (.int (own_inr qq)), .val (.int (own_ua ra qq av)), .val (.int (own_ub ob qq bv)), .unset]) rfl ?_
          show Steps p.tables e below (T39.setTop (mkF m 288 #[.val (.int p1), .val (.int p2), .val (.int p3), .val (.int p4), .val (.long q5), .second, .val (.int cv), .val (.int av), .val (.int bv), .val (.int ob), .val (.int ra), .val (.int md), .val (.long qq), .second, .val (.ref b11), .val (.int (own_inr qq)), .val (.int (own_ua ra qq av)), .val (.int (own_ub ob qq bv)), .unset] [])) _
          refine XS.iload X39.here hx rfl (hb hby at_288) rfl ?_
          exact k)
      have ac50 : ∀ t, Steps p.tables e below (T39.setTop (mkF m 308 #[.val (.int p1), .val (.int p2), .val (.int p3), .val (.int p4), .val (.long q5), .second, .val (.int cv), .val (.int av), .val (.int bv), .val (.int ob), .val (.int ra), .val (.int md), .val (.long qq), .second, .val (.ref b11), .val (.int (own_inr qq)), .val (.int (own_ua ra qq av)), .val (.int (own_ub ob qq bv)), .unset] [(.int (own_ex (own_inr qq) (own_ua ra qq av) (own_ub ob qq bv)))])) t → Steps p.tables e below (s₁.setTop (entryFrame m #[(.int p1), (.int p2), (.int p3), (.int p4), (.long q5)] maxLocals)) t := fun t k => ac49 t (by
          by_cases x1 : (own_inr qq) = (0 : Int32)
          ·
            show Steps p.tables e below (T39.setTop (mkF m 290 #[.val (.int p1), .val (.int p2), .val (.int p3), .val (.int p4), .val (.long q5), .second, .val (.int cv), .val (.int av), .val (.int bv), .val (.int ob), .val (.int ra), .val (.int md), .val (.long qq), .second, .val (.ref b11), .val (.int (own_inr qq)), .val (.int (own_ua ra qq av)), .val (.int (own_ub ob qq bv)), .unset] [(.int (own_inr qq))])) _
            refine XS.ifYes X39.here hx rfl (pc0 := 290) (pc' := 307) rfl (hb hby at_290) rfl ((if0 _ _).trans (teq x1).1) (by decide) (by decide) ?_
            show Steps p.tables e below (T39.setTop (mkF m 307 #[.val (.int p1), .val (.int p2), .val (.int p3), .val (.int p4), .val (.long q5), .second, .val (.int cv), .val (.int av), .val (.int bv), .val (.int ob), .val (.int ra), .val (.int md), .val (.long qq), .second, .val (.ref b11), .val (.int (own_inr qq)), .val (.int (own_ua ra qq av)), .val (.int (own_ub ob qq bv)), .unset] [])) _
            refine XS.iconst X39.here hx rfl (hb hby at_307) ?_
            rw [show (own_ex (own_inr qq) (own_ua ra qq av) (own_ub ob qq bv)) = 0 from if_pos x1] at k; exact k
          ·
            show Steps p.tables e below (T39.setTop (mkF m 290 #[.val (.int p1), .val (.int p2), .val (.int p3), .val (.int p4), .val (.long q5), .second, .val (.int cv), .val (.int av), .val (.int bv), .val (.int ob), .val (.int ra), .val (.int md), .val (.long qq), .second, .val (.ref b11), .val (.int (own_inr qq)), .val (.int (own_ua ra qq av)), .val (.int (own_ub ob qq bv)), .unset] [(.int (own_inr qq))])) _
            refine XS.ifNo X39.here hx rfl (hb hby at_290) rfl ((if0 _ _).trans (feq x1).1) ?_
            show Steps p.tables e below (T39.setTop (mkF m 293 #[.val (.int p1), .val (.int p2), .val (.int p3), .val (.int p4), .val (.long q5), .second, .val (.int cv), .val (.int av), .val (.int bv), .val (.int ob), .val (.int ra), .val (.int md), .val (.long qq), .second, .val (.ref b11), .val (.int (own_inr qq)), .val (.int (own_ua ra qq av)), .val (.int (own_ub ob qq bv)), .unset] [])) _
            refine XS.iload X39.here hx rfl (hb hby at_293) rfl ?_
            by_cases x2 : (own_ua ra qq av) = (0 : Int32)
            ·
              show Steps p.tables e below (T39.setTop (mkF m 295 #[.val (.int p1), .val (.int p2), .val (.int p3), .val (.int p4), .val (.long q5), .second, .val (.int cv), .val (.int av), .val (.int bv), .val (.int ob), .val (.int ra), .val (.int md), .val (.long qq), .second, .val (.ref b11), .val (.int (own_inr qq)), .val (.int (own_ua ra qq av)), .val (.int (own_ub ob qq bv)), .unset] [(.int (own_ua ra qq av))])) _
              refine XS.ifNo X39.here hx rfl (hb hby at_295) rfl ((if0 _ _).trans (teq x2).2) ?_
              show Steps p.tables e below (T39.setTop (mkF m 298 #[.val (.int p1), .val (.int p2), .val (.int p3), .val (.int p4), .val (.long q5), .second, .val (.int cv), .val (.int av), .val (.int bv), .val (.int ob), .val (.int ra), .val (.int md), .val (.long qq), .second, .val (.ref b11), .val (.int (own_inr qq)), .val (.int (own_ua ra qq av)), .val (.int (own_ub ob qq bv)), .unset] [])) _
              refine XS.iload X39.here hx rfl (hb hby at_298) rfl ?_
              by_cases x3 : (own_ub ob qq bv) = (0 : Int32)
              ·
                show Steps p.tables e below (T39.setTop (mkF m 300 #[.val (.int p1), .val (.int p2), .val (.int p3), .val (.int p4), .val (.long q5), .second, .val (.int cv), .val (.int av), .val (.int bv), .val (.int ob), .val (.int ra), .val (.int md), .val (.long qq), .second, .val (.ref b11), .val (.int (own_inr qq)), .val (.int (own_ua ra qq av)), .val (.int (own_ub ob qq bv)), .unset] [(.int (own_ub ob qq bv))])) _
                refine XS.ifNo X39.here hx rfl (hb hby at_300) rfl ((if0 _ _).trans (teq x3).2) ?_
                show Steps p.tables e below (T39.setTop (mkF m 303 #[.val (.int p1), .val (.int p2), .val (.int p3), .val (.int p4), .val (.long q5), .second, .val (.int cv), .val (.int av), .val (.int bv), .val (.int ob), .val (.int ra), .val (.int md), .val (.long qq), .second, .val (.ref b11), .val (.int (own_inr qq)), .val (.int (own_ua ra qq av)), .val (.int (own_ub ob qq bv)), .unset] [])) _
                refine XS.iconst X39.here hx rfl (hb hby at_303) ?_
                show Steps p.tables e below (T39.setTop (mkF m 304 #[.val (.int p1), .val (.int p2), .val (.int p3), .val (.int p4), .val (.long q5), .second, .val (.int cv), .val (.int av), .val (.int bv), .val (.int ob), .val (.int ra), .val (.int md), .val (.long qq), .second, .val (.ref b11), .val (.int (own_inr qq)), .val (.int (own_ua ra qq av)), .val (.int (own_ub ob qq bv)), .unset] [(.int (1 : Int32))])) _
                refine XS.goto X39.here hx rfl (pc0 := 304) (pc' := 308) rfl (hb hby at_304) (by decide) (by decide) ?_
                rw [show (own_ex (own_inr qq) (own_ua ra qq av) (own_ub ob qq bv)) = 1 from (if_neg x1).trans ((if_pos x2).trans (if_pos x3))] at k; exact k
              ·
                show Steps p.tables e below (T39.setTop (mkF m 300 #[.val (.int p1), .val (.int p2), .val (.int p3), .val (.int p4), .val (.long q5), .second, .val (.int cv), .val (.int av), .val (.int bv), .val (.int ob), .val (.int ra), .val (.int md), .val (.long qq), .second, .val (.ref b11), .val (.int (own_inr qq)), .val (.int (own_ua ra qq av)), .val (.int (own_ub ob qq bv)), .unset] [(.int (own_ub ob qq bv))])) _
                refine XS.ifYes X39.here hx rfl (pc0 := 300) (pc' := 307) rfl (hb hby at_300) rfl ((if0 _ _).trans (feq x3).2) (by decide) (by decide) ?_
                show Steps p.tables e below (T39.setTop (mkF m 307 #[.val (.int p1), .val (.int p2), .val (.int p3), .val (.int p4), .val (.long q5), .second, .val (.int cv), .val (.int av), .val (.int bv), .val (.int ob), .val (.int ra), .val (.int md), .val (.long qq), .second, .val (.ref b11), .val (.int (own_inr qq)), .val (.int (own_ua ra qq av)), .val (.int (own_ub ob qq bv)), .unset] [])) _
                refine XS.iconst X39.here hx rfl (hb hby at_307) ?_
                rw [show (own_ex (own_inr qq) (own_ua ra qq av) (own_ub ob qq bv)) = 0 from (if_neg x1).trans ((if_pos x2).trans (if_neg x3))] at k; exact k
            ·
              show Steps p.tables e below (T39.setTop (mkF m 295 #[.val (.int p1), .val (.int p2), .val (.int p3), .val (.int p4), .val (.long q5), .second, .val (.int cv), .val (.int av), .val (.int bv), .val (.int ob), .val (.int ra), .val (.int md), .val (.long qq), .second, .val (.ref b11), .val (.int (own_inr qq)), .val (.int (own_ua ra qq av)), .val (.int (own_ub ob qq bv)), .unset] [(.int (own_ua ra qq av))])) _
              refine XS.ifYes X39.here hx rfl (pc0 := 295) (pc' := 307) rfl (hb hby at_295) rfl ((if0 _ _).trans (feq x2).2) (by decide) (by decide) ?_
              show Steps p.tables e below (T39.setTop (mkF m 307 #[.val (.int p1), .val (.int p2), .val (.int p3), .val (.int p4), .val (.long q5), .second, .val (.int cv), .val (.int av), .val (.int bv), .val (.int ob), .val (.int ra), .val (.int md), .val (.long qq), .second, .val (.ref b11), .val (.int (own_inr qq)), .val (.int (own_ua ra qq av)), .val (.int (own_ub ob qq bv)), .unset] [])) _
              refine XS.iconst X39.here hx rfl (hb hby at_307) ?_
              rw [show (own_ex (own_inr qq) (own_ua ra qq av) (own_ub ob qq bv)) = 0 from (if_neg x1).trans (if_neg x2)] at k; exact k)
      have ac51 : ∀ t, Steps p.tables e below (T39.setTop (mkF m 314 #[.val (.int p1), .val (.int p2), .val (.int p3), .val (.int p4), .val (.long q5), .second, .val (.int cv), .val (.int av), .val (.int bv), .val (.int ob), .val (.int ra), .val (.int md), .val (.long qq), .second, .val (.ref b11), .val (.int (own_inr qq)), .val (.int (own_ua ra qq av)), .val (.int (own_ub ob qq bv)), .val (.int (own_ex (own_inr qq) (own_ua ra qq av) (own_ub ob qq bv)))] [(.long qq), (.ref b11)])) t → Steps p.tables e below (s₁.setTop (entryFrame m #[(.int p1), (.int p2), (.int p3), (.int p4), (.long q5)] maxLocals)) t := fun t k => ac50 t (by
          show Steps p.tables e below (T39.setTop (mkF m 308 #[.val (.int p1), .val (.int p2), .val (.int p3), .val (.int p4), .val (.long q5), .second, .val (.int cv), .val (.int av), .val (.int bv), .val (.int ob), .val (.int ra), .val (.int md), .val (.long qq), .second, .val (.ref b11), .val (.int (own_inr qq)), .val (.int (own_ua ra qq av)), .val (.int (own_ub ob qq bv)), .unset] [(.int (own_ex (own_inr qq) (own_ua ra qq av) (own_ub ob qq bv)))])) _
          refine XS.istore X39.here hx rfl (hb hby at_308) rfl (l' := #[.val (.int p1), .val (.int p2), .val (.int p3), .val (.int p4), .val (.long q5), .second, .val (.int cv), .val (.int av), .val (.int bv), .val (.int ob), .val (.int ra), .val (.int md), .val (.long qq), .second, .val (.ref b11), .val (.int (own_inr qq)), .val (.int (own_ua ra qq av)), .val (.int (own_ub ob qq bv)), .val (.int (own_ex (own_inr qq) (own_ua ra qq av) (own_ub ob qq bv)))]) rfl ?_
          show Steps p.tables e below (T39.setTop (mkF m 310 #[.val (.int p1), .val (.int p2), .val (.int p3), .val (.int p4), .val (.long q5), .second, .val (.int cv), .val (.int av), .val (.int bv), .val (.int ob), .val (.int ra), .val (.int md), .val (.long qq), .second, .val (.ref b11), .val (.int (own_inr qq)), .val (.int (own_ua ra qq av)), .val (.int (own_ub ob qq bv)), .val (.int (own_ex (own_inr qq) (own_ua ra qq av) (own_ub ob qq bv)))] [])) _
          refine XS.aload X39.here hx rfl (hb hby at_310) rfl rfl ?_
          show Steps p.tables e below (T39.setTop (mkF m 312 #[.val (.int p1), .val (.int p2), .val (.int p3), .val (.int p4), .val (.long q5), .second, .val (.int cv), .val (.int av), .val (.int bv), .val (.int ob), .val (.int ra), .val (.int md), .val (.long qq), .second, .val (.ref b11), .val (.int (own_inr qq)), .val (.int (own_ua ra qq av)), .val (.int (own_ub ob qq bv)), .val (.int (own_ex (own_inr qq) (own_ua ra qq av) (own_ub ob qq bv)))] [(.ref b11)])) _
          refine XS.lload X39.here hx rfl (hb hby at_312) rfl ?_
          exact k)
      obtain ⟨cq52, kq52, q52a, q52b, q52c⟩ := isOf hZ rfl HB39.1
      obtain ⟨_, _, ⟨T52, L52, k52, n52⟩, -, X52, ⟨Lc52, hQ52, l52, y52, z52⟩, st52⟩ := X39.virtualBack hx (y := (⟨"com/example/twinbase/twinbase/CellSpace", "isFree", "(J)Z"⟩ : MethodName)) (z := (⟨"com/example/twinbase/twinbase/CellSpace", "isFree", "(J)Z"⟩ : MethodName)) hown (mvT hZ (hw _ (List.mem_of_getElem? (i := 75) rfl))) (mvT hZ (hw _ (List.mem_of_getElem? (i := 76) rfl))) (notFace_of_selects (args := #[]) (mvT hZ (hw _ (List.mem_of_getElem? (i := 78) rfl)))) (mvT hZ (hw _ (List.mem_of_getElem? (i := 78) rfl))) (mvT hZ (hw _ (List.mem_of_getElem? (i := 77) rfl))) (by decide) (backOf (W := 0) (rm12 l Z a0 hw [] b11 qq _ _ bC20 bU20 bF20 bR15 ln20 _ (fun i => if i = avn / 64 then (fun i => if i = avn / 64 then (fun _ => (0 : Int64)) i ||| own_sh av else (fun _ => (0 : Int64)) i) i &&& (own_sh av ^^^ (-1)) else (fun i => if i = avn / 64 then (fun _ => (0 : Int64)) i ||| own_sh av else (fun _ => (0 : Int64)) i) i) _ _ T39.heap n0 Z39 HB39) hZ (hw _ (List.mem_of_getElem? (i := 79) rfl)) (hw _ (List.mem_of_getElem? (i := 2) rfl)) (by decide) (by decide)) q52a q52c (g := (mkF m 314 #[.val (.int p1), .val (.int p2), .val (.int p3), .val (.int p4), .val (.long q5), .second, .val (.int cv), .val (.int av), .val (.int bv), .val (.int ob), .val (.int ra), .val (.int md), .val (.long qq), .second, .val (.ref b11), .val (.int (own_inr qq)), .val (.int (own_ua ra qq av)), .val (.int (own_ub ob qq bv)), .val (.int (own_ex (own_inr qq) (own_ua ra qq av) (own_ub ob qq bv)))] [(.long qq), (.ref b11)])) rfl (by rw [hml]; rfl) (Steps.refl _) (argsL := [(.long qq)]) (rest := []) (lenOf pd_9 rfl) rfl (by show 2 * 0 + _ ≤ _; exact Nat.le_of_eq rfl) (hb hby at_314) (fun _ _ => ⟨rfl, rfl, (by decide : 11 + 0 ≤ _), (by decide : 2120 + 0 ≤ _)⟩)
      dsimp only [Pt.U, Pt.locs, Pt.cells, Pt.slots] at X52 l52 y52 z52 st52 hQ52
      subst l52 y52 z52
      obtain ⟨rfl, N52q, Qe52⟩ := hQ52
      have N52 := Fr.app N39 N52q
      have ac53 : ∀ t, Steps p.tables e below (T52.setTop (mkF m 317 #[.val (.int p1), .val (.int p2), .val (.int p3), .val (.int p4), .val (.long q5), .second, .val (.int cv), .val (.int av), .val (.int bv), .val (.int ob), .val (.int ra), .val (.int md), .val (.long qq), .second, .val (.ref b11), .val (.int (own_inr qq)), .val (.int (own_ua ra qq av)), .val (.int (own_ub ob qq bv)), .val (.int (own_ex (own_inr qq) (own_ua ra qq av) (own_ub ob qq bv)))] [(.int (own_fr qq ln20 (fun i => if i = avn / 64 then (fun i => if i = avn / 64 then (fun _ => (0 : Int64)) i ||| own_sh av else (fun _ => (0 : Int64)) i) i &&& (own_sh av ^^^ (-1)) else (fun i => if i = avn / 64 then (fun _ => (0 : Int64)) i ||| own_sh av else (fun _ => (0 : Int64)) i) i)))])) t → Steps p.tables e below (s₁.setTop (entryFrame m #[(.int p1), (.int p2), (.int p3), (.int p4), (.long q5)] maxLocals)) t := fun t k => ac51 t (st52.trans k)
      have hlast : own_fr qq ln20 (fun i => if i = avn / 64 then (fun i => if i = avn / 64 then (fun _ => (0 : Int64)) i ||| own_sh av else (fun _ => (0 : Int64)) i) i &&& (own_sh av ^^^ (-1)) else (fun i => if i = avn / 64 then (fun _ => (0 : Int64)) i ||| own_sh av else (fun _ => (0 : Int64)) i) i) = (own_ex (own_inr qq) (own_ua ra qq av) (own_ub ob qq bv)) := own_last hL2 havn hbvn hA2 hB2 huG (fun k => by simp [hra, hob0])
      have ac54 : ∀ t, Steps p.tables e below (T52.setTop (mkF m 327 #[.val (.int p1), .val (.int p2), .val (.int p3), .val (.int p4), .val (.long q5), .second, .val (.int cv), .val (.int av), .val (.int bv), .val (.int ob), .val (.int ra), .val (.int md), .val (.long qq), .second, .val (.ref b11), .val (.int (own_inr qq)), .val (.int (own_ua ra qq av)), .val (.int (own_ub ob qq bv)), .val (.int (own_ex (own_inr qq) (own_ua ra qq av) (own_ub ob qq bv)))] [(.int (1 : Int32))])) t → Steps p.tables e below (s₁.setTop (entryFrame m #[(.int p1), (.int p2), (.int p3), (.int p4), (.long q5)] maxLocals)) t := fun t k => ac53 t (by
          show Steps p.tables e below (T52.setTop (mkF m 317 #[.val (.int p1), .val (.int p2), .val (.int p3), .val (.int p4), .val (.long q5), .second, .val (.int cv), .val (.int av), .val (.int bv), .val (.int ob), .val (.int ra), .val (.int md), .val (.long qq), .second, .val (.ref b11), .val (.int (own_inr qq)), .val (.int (own_ua ra qq av)), .val (.int (own_ub ob qq bv)), .val (.int (own_ex (own_inr qq) (own_ua ra qq av) (own_ub ob qq bv)))] [(.int (own_fr qq ln20 (fun i => if i = avn / 64 then (fun i => if i = avn / 64 then (fun _ => (0 : Int64)) i ||| own_sh av else (fun _ => (0 : Int64)) i) i &&& (own_sh av ^^^ (-1)) else (fun i => if i = avn / 64 then (fun _ => (0 : Int64)) i ||| own_sh av else (fun _ => (0 : Int64)) i) i)))])) _
          refine XS.iload X52.here hx rfl (hb hby at_317) rfl ?_
          show Steps p.tables e below (T52.setTop (mkF m 319 #[.val (.int p1), .val (.int p2), .val (.int p3), .val (.int p4), .val (.long q5), .second, .val (.int cv), .val (.int av), .val (.int bv), .val (.int ob), .val (.int ra), .val (.int md), .val (.long qq), .second, .val (.ref b11), .val (.int (own_inr qq)), .val (.int (own_ua ra qq av)), .val (.int (own_ub ob qq bv)), .val (.int (own_ex (own_inr qq) (own_ua ra qq av) (own_ub ob qq bv)))] [(.int (own_ex (own_inr qq) (own_ua ra qq av) (own_ub ob qq bv))), (.int (own_fr qq ln20 (fun i => if i = avn / 64 then (fun i => if i = avn / 64 then (fun _ => (0 : Int64)) i ||| own_sh av else (fun _ => (0 : Int64)) i) i &&& (own_sh av ^^^ (-1)) else (fun i => if i = avn / 64 then (fun _ => (0 : Int64)) i ||| own_sh av else (fun _ => (0 : Int64)) i) i)))])) _
          refine XS.icmpNo X52.here hx rfl (hb hby at_319) rfl (teq hlast).2 ?_
          show Steps p.tables e below (T52.setTop (mkF m 322 #[.val (.int p1), .val (.int p2), .val (.int p3), .val (.int p4), .val (.long q5), .second, .val (.int cv), .val (.int av), .val (.int bv), .val (.int ob), .val (.int ra), .val (.int md), .val (.long qq), .second, .val (.ref b11), .val (.int (own_inr qq)), .val (.int (own_ua ra qq av)), .val (.int (own_ub ob qq bv)), .val (.int (own_ex (own_inr qq) (own_ua ra qq av) (own_ub ob qq bv)))] [])) _
          refine XS.iconst X52.here hx rfl (hb hby at_322) ?_
          show Steps p.tables e below (T52.setTop (mkF m 323 #[.val (.int p1), .val (.int p2), .val (.int p3), .val (.int p4), .val (.long q5), .second, .val (.int cv), .val (.int av), .val (.int bv), .val (.int ob), .val (.int ra), .val (.int md), .val (.long qq), .second, .val (.ref b11), .val (.int (own_inr qq)), .val (.int (own_ua ra qq av)), .val (.int (own_ub ob qq bv)), .val (.int (own_ex (own_inr qq) (own_ua ra qq av) (own_ub ob qq bv)))] [(.int (1 : Int32))])) _
          refine XS.goto X52.here hx rfl (pc0 := 323) (pc' := 327) rfl (hb hby at_323) (by decide) (by decide) ?_
          exact k)
      obtain ⟨fs, hr, hrun, hended, hW, hsame⟩ := X52.leave (v := some (.int (1 : Int32))) (fun h => by rw [Bd.returns] at h; cases h) (BodyLoose.notSynchronized Bd)
      refine ⟨_, _, ac54 _ ?_, hrun, hended, _, _, rfl, ?_, ⟨_, rfl⟩, hW, hsame.mono (by decide) (by decide)⟩
      · show Steps p.tables e below (T52.setTop (mkF m 327 #[.val (.int p1), .val (.int p2), .val (.int p3), .val (.int p4), .val (.long q5), .second, .val (.int cv), .val (.int av), .val (.int bv), .val (.int ob), .val (.int ra), .val (.int md), .val (.long qq), .second, .val (.ref b11), .val (.int (own_inr qq)), .val (.int (own_ua ra qq av)), .val (.int (own_ub ob qq bv)), .val (.int (own_ex (own_inr qq) (own_ua ra qq av) (own_ub ob qq bv)))] [(.int (1 : Int32))])) _
        exact retN X52 hx (t := .boolean) Bd.returns (by simp) (hb hby at_327) hr
      · show Q0 Z p1 p2 p3 p4 q5 frv h0 n0 _ T52.heap _
        rw [Qe52]
        exact ⟨rfl, N52⟩
  ·
    have hbva := hob hob0
    have hbn : ¬ bvn = avn := fun q => hbva (own_eq_of (by omega))
    obtain ⟨j2, hj2, hj2a, hj2b⟩ := own_j2 avn bvn
    have hff2 : bv = (own_low av (0 : Int32) (((fun _ => (0 : Int64)) (avn / 64)) ||| (own_sh av))) → ¬ own_free (((fun i => if i = avn / 64 then (fun _ => (0 : Int64)) i ||| own_sh av else (fun _ => (0 : Int64)) i) (bvn / 64)) ||| (own_sh bv)) bv = 0 := fun h => by
      have z0 : (0 : Int32).toInt = 0 := rfl
      have z1 : (1 : Int32).toInt = 1 := rfl
      by_cases q : av = 0
      · have b1 : bvn = 1 := by rw [hlw1 q] at h; rw [h] at hbvn; omega
        have a0 : avn = 0 := by rw [q] at havn; omega
        exact own_free_ne hbvn (j := 2) (by decide) (own_bit_at hbvn hu1 (by decide) (by omega) (fun q => by rcases q with q | q; exact q; omega)) (by omega)
      · have b0 : bvn = 0 := by rw [hlw0 q] at h; rw [h] at hbvn; omega
        by_cases a1 : avn = 1
        · exact own_free_ne hbvn (j := 2) (by decide) (own_bit_at hbvn hu1 (by decide) (by omega) (fun q => by rcases q with q | q; exact q; omega)) (by omega)
        · exact own_free_ne hbvn (j := 1) (by decide) (own_bit_at hbvn hu1 (by decide) (by omega) (fun q => by rcases q with q | q; exact q; omega)) (by omega)
    have ac55 : ∀ t, Steps p.tables e below (T20.setTop (mkF m 208 #[.val (.int p1), .val (.int p2), .val (.int p3), .val (.int p4), .val (.long q5), .second, .val (.int cv), .val (.int av), .val (.int bv), .val (.int ob), .val (.int ra), .val (.int md), .val (.long qq), .second, .val (.ref b11), .unset, .unset, .unset, .unset] [(.int bv), (.ref b11)])) t → Steps p.tables e below (s₁.setTop (entryFrame m #[(.int p1), (.int p2), (.int p3), (.int p4), (.long q5)] maxLocals)) t := fun t k => ac24 t (by
        show Steps p.tables e below (T20.setTop (mkF m 201 #[.val (.int p1), .val (.int p2), .val (.int p3), .val (.int p4), .val (.long q5), .second, .val (.int cv), .val (.int av), .val (.int bv), .val (.int ob), .val (.int ra), .val (.int md), .val (.long qq), .second, .val (.ref b11), .unset, .unset, .unset, .unset] [(.int ob)])) _
        refine XS.ifNo X20.here hx rfl (hb hby at_201) rfl ((if0 _ _).trans (feq hob0).1) ?_
        show Steps p.tables e below (T20.setTop (mkF m 204 #[.val (.int p1), .val (.int p2), .val (.int p3), .val (.int p4), .val (.long q5), .second, .val (.int cv), .val (.int av), .val (.int bv), .val (.int ob), .val (.int ra), .val (.int md), .val (.long qq), .second, .val (.ref b11), .unset, .unset, .unset, .unset] [])) _
        refine XS.aload X20.here hx rfl (hb hby at_204) rfl rfl ?_
        show Steps p.tables e below (T20.setTop (mkF m 206 #[.val (.int p1), .val (.int p2), .val (.int p3), .val (.int p4), .val (.long q5), .second, .val (.int cv), .val (.int av), .val (.int bv), .val (.int ob), .val (.int ra), .val (.int md), .val (.long qq), .second, .val (.ref b11), .unset, .unset, .unset, .unset] [(.ref b11)])) _
        refine XS.iload X20.here hx rfl (hb hby at_206) rfl ?_
        exact k)
    obtain ⟨cq56, kq56, q56a, q56b, q56c⟩ := isOf hZ rfl HB20.1
    obtain ⟨_, _, ⟨T56, L56, k56, n56⟩, -, X56, ⟨Lc56, hQ56, l56, y56, z56⟩, st56⟩ := X20.virtualBack hx (y := (⟨"com/example/twinbase/twinbase/CellSpace", "occupy", "(I)V"⟩ : MethodName)) (z := (⟨"com/example/twinbase/twinbase/CellSpace", "occupy", "(I)V"⟩ : MethodName)) hown (mvT hZ (hw _ (List.mem_of_getElem? (i := 55) rfl))) (mvT hZ (hw _ (List.mem_of_getElem? (i := 56) rfl))) (notFace_of_selects (args := #[]) (mvT hZ (hw _ (List.mem_of_getElem? (i := 58) rfl)))) (mvT hZ (hw _ (List.mem_of_getElem? (i := 58) rfl))) (mvT hZ (hw _ (List.mem_of_getElem? (i := 57) rfl))) (by decide) (backOf (W := 0) (rm9 l Z a0 hw [] b11 bv (own_low av (0 : Int32) (((fun _ => (0 : Int64)) (avn / 64)) ||| (own_sh av))) _ bC20 bU20 bF20 bR15 ln20 _ (fun i => if i = avn / 64 then (fun _ => (0 : Int64)) i ||| own_sh av else (fun _ => (0 : Int64)) i) _ _ bvn frv T20.heap n0 Z20 HB20 hbvn lbvn hL1 (own_hz_add (nU := (ln20 + 63) / 64) (c := avn / 64) (fun _ _ => rfl) (by omega)) g_b11 (own_ne_m1 hj2 (own_bit_at hbvn hu1 hj2 hj2b (fun q => by rcases q with q | q; exact q; omega))) hff2 Sf22) hZ (hw _ (List.mem_of_getElem? (i := 59) rfl)) (hw _ (List.mem_of_getElem? (i := 2) rfl)) (by decide) (by decide)) q56a q56c (g := (mkF m 208 #[.val (.int p1), .val (.int p2), .val (.int p3), .val (.int p4), .val (.long q5), .second, .val (.int cv), .val (.int av), .val (.int bv), .val (.int ob), .val (.int ra), .val (.int md), .val (.long qq), .second, .val (.ref b11), .unset, .unset, .unset, .unset] [(.int bv), (.ref b11)])) rfl (by rw [hml]; rfl) (Steps.refl _) (argsL := [(.int bv)]) (rest := []) (lenOf pd_0 rfl) rfl (by show 2 * 0 + _ ≤ _; exact Nat.le_of_eq rfl) (hb hby at_208) (fun _ _ => ⟨rfl, rfl, (by decide : 11 + 3 ≤ _), (by decide : 2120 + 1041 ≤ _)⟩)
    dsimp only [Pt.U, Pt.locs, Pt.cells, Pt.slots] at X56 l56 y56 z56 st56 hQ56
    subst l56 y56 z56
    obtain ⟨bC56, bU56, bF56, fC56, ff56, ln56, sz56, rfl, N56q, K56q, c156, c256, c356, HB56⟩ := hQ56
    have N56 := Fr.app N20 N56q
    have Ef57 := HB20.1.keep K56q
    have Sf58 := own_Sta_keep1 Sf22 K56q (allS (own_cellE HB20.1) (allS (own_cellV HB20.2.2.2.2.2.2.2.2.1) all0))
    have Z56 : n0 ≤ T56.heap.size := Nat.le_trans Z20 K56q.1
    have ac59 : ∀ t, Steps p.tables e below (T56.setTop (mkF m 211 #[.val (.int p1), .val (.int p2), .val (.int p3), .val (.int p4), .val (.long q5), .second, .val (.int cv), .val (.int av), .val (.int bv), .val (.int ob), .val (.int ra), .val (.int md), .val (.long qq), .second, .val (.ref b11), .unset, .unset, .unset, .unset] [])) t → Steps p.tables e below (s₁.setTop (entryFrame m #[(.int p1), (.int p2), (.int p3), (.int p4), (.long q5)] maxLocals)) t := fun t k => ac55 t (st56.trans k)
    have hA2 : avn < ln56 := Nat.lt_of_lt_of_le hA c256
    have hL2 : ln56 < 2147483648 := by omega
    have hB2 : ¬ ob = 0 → bvn < ln56 := fun _ => c156
    have huF : own_U (fun i => if i = bvn / 64 then (fun i => if i = avn / 64 then (fun _ => (0 : Int64)) i ||| own_sh av else (fun _ => (0 : Int64)) i) i ||| own_sh bv else (fun i => if i = avn / 64 then (fun _ => (0 : Int64)) i ||| own_sh av else (fun _ => (0 : Int64)) i) i) (fun k => (False ∨ k = avn) ∨ k = bvn) := own_U_add hbvn hu1
    have ac60 : ∀ t, Steps p.tables e below (T56.setTop (mkF m 213 #[.val (.int p1), .val (.int p2), .val (.int p3), .val (.int p4), .val (.long q5), .second, .val (.int cv), .val (.int av), .val (.int bv), .val (.int ob), .val (.int ra), .val (.int md), .val (.long qq), .second, .val (.ref b11), .unset, .unset, .unset, .unset] [(.int ra)])) t → Steps p.tables e below (s₁.setTop (entryFrame m #[(.int p1), (.int p2), (.int p3), (.int p4), (.long q5)] maxLocals)) t := fun t k => ac59 t (by
        show Steps p.tables e below (T56.setTop (mkF m 211 #[.val (.int p1), .val (.int p2), .val (.int p3), .val (.int p4), .val (.long q5), .second, .val (.int cv), .val (.int av), .val (.int bv), .val (.int ob), .val (.int ra), .val (.int md), .val (.long qq), .second, .val (.ref b11), .unset, .unset, .unset, .unset] [])) _
        refine XS.iload X56.here hx rfl (hb hby at_211) rfl ?_
        exact k)
    by_cases hra : ra = (0 : Int32)
    ·
      have ac61 : ∀ t, Steps p.tables e below (T56.setTop (mkF m 227 #[.val (.int p1), .val (.int p2), .val (.int p3), .val (.int p4), .val (.long q5), .second, .val (.int cv), .val (.int av), .val (.int bv), .val (.int ob), .val (.int ra), .val (.int md), .val (.long qq), .second, .val (.ref b11), .unset, .unset, .unset, .unset] [(.int (lcmpW qq (0 : Int64)))])) t → Steps p.tables e below (s₁.setTop (entryFrame m #[(.int p1), (.int p2), (.int p3), (.int p4), (.long q5)] maxLocals)) t := fun t k => ac60 t (by
          show Steps p.tables e below (T56.setTop (mkF m 213 #[.val (.int p1), .val (.int p2), .val (.int p3), .val (.int p4), .val (.long q5), .second, .val (.int cv), .val (.int av), .val (.int bv), .val (.int ob), .val (.int ra), .val (.int md), .val (.long qq), .second, .val (.ref b11), .unset, .unset, .unset, .unset] [(.int ra)])) _
          refine XS.ifYes X56.here hx rfl (pc0 := 213) (pc' := 223) rfl (hb hby at_213) rfl ((if0 _ _).trans (teq hra).1) (by decide) (by decide) ?_
          show Steps p.tables e below (T56.setTop (mkF m 223 #[.val (.int p1), .val (.int p2), .val (.int p3), .val (.int p4), .val (.long q5), .second, .val (.int cv), .val (.int av), .val (.int bv), .val (.int ob), .val (.int ra), .val (.int md), .val (.long qq), .second, .val (.ref b11), .unset, .unset, .unset, .unset] [])) _
          refine XS.lload X56.here hx rfl (hb hby at_223) rfl ?_
          show Steps p.tables e below (T56.setTop (mkF m 225 #[.val (.int p1), .val (.int p2), .val (.int p3), .val (.int p4), .val (.long q5), .second, .val (.int cv), .val (.int av), .val (.int bv), .val (.int ob), .val (.int ra), .val (.int md), .val (.long qq), .second, .val (.ref b11), .unset, .unset, .unset, .unset] [(.long qq)])) _
          refine XS.lconst X56.here hx rfl (hb hby at_225) ?_
          show Steps p.tables e below (T56.setTop (mkF m 226 #[.val (.int p1), .val (.int p2), .val (.int p3), .val (.int p4), .val (.long q5), .second, .val (.int cv), .val (.int av), .val (.int bv), .val (.int ob), .val (.int ra), .val (.int md), .val (.long qq), .second, .val (.ref b11), .unset, .unset, .unset, .unset] [(.long (0 : Int64)), (.long qq)])) _
          refine XS.lcmp X56.here hx rfl (hb hby at_226) rfl ?_
          exact k)
      have ac62 : ∀ t, Steps p.tables e below (T56.setTop (mkF m 244 #[.val (.int p1), .val (.int p2), .val (.int p3), .val (.int p4), .val (.long q5), .second, .val (.int cv), .val (.int av), .val (.int bv), .val (.int ob), .val (.int ra), .val (.int md), .val (.long qq), .second, .val (.ref b11), .unset, .unset, .unset, .unset] [(.int (own_inr qq))])) t → Steps p.tables e below (s₁.setTop (entryFrame m #[(.int p1), (.int p2), (.int p3), (.int p4), (.long q5)] maxLocals)) t := fun t k => ac61 t (by
          by_cases hq0 : qq < (0 : Int64)
          ·
            show Steps p.tables e below (T56.setTop (mkF m 227 #[.val (.int p1), .val (.int p2), .val (.int p3), .val (.int p4), .val (.long q5), .second, .val (.int cv), .val (.int av), .val (.int bv), .val (.int ob), .val (.int ra), .val (.int md), .val (.long qq), .second, .val (.ref b11), .unset, .unset, .unset, .unset] [(.int (lcmpW qq (0 : Int64)))])) _
            refine XS.ifYes X56.here hx rfl (pc0 := 227) (pc' := 243) rfl (hb hby at_227) rfl ((if0 _ _).trans (tlt ((lw_lt _ _).mpr hq0)).1) (by decide) (by decide) ?_
            show Steps p.tables e below (T56.setTop (mkF m 243 #[.val (.int p1), .val (.int p2), .val (.int p3), .val (.int p4), .val (.long q5), .second, .val (.int cv), .val (.int av), .val (.int bv), .val (.int ob), .val (.int ra), .val (.int md), .val (.long qq), .second, .val (.ref b11), .unset, .unset, .unset, .unset] [])) _
            refine XS.iconst X56.here hx rfl (hb hby at_243) ?_
            rw [show own_inr qq = 0 from if_pos hq0] at k; exact k
          ·
            show Steps p.tables e below (T56.setTop (mkF m 227 #[.val (.int p1), .val (.int p2), .val (.int p3), .val (.int p4), .val (.long q5), .second, .val (.int cv), .val (.int av), .val (.int bv), .val (.int ob), .val (.int ra), .val (.int md), .val (.long qq), .second, .val (.ref b11), .unset, .unset, .unset, .unset] [(.int (lcmpW qq (0 : Int64)))])) _
            refine XS.ifNo X56.here hx rfl (hb hby at_227) rfl ((if0 _ _).trans (flt (mt (lw_lt _ _).mp hq0)).1) ?_
            show Steps p.tables e below (T56.setTop (mkF m 230 #[.val (.int p1), .val (.int p2), .val (.int p3), .val (.int p4), .val (.long q5), .second, .val (.int cv), .val (.int av), .val (.int bv), .val (.int ob), .val (.int ra), .val (.int md), .val (.long qq), .second, .val (.ref b11), .unset, .unset, .unset, .unset] [])) _
            refine XS.lload X56.here hx rfl (hb hby at_230) rfl ?_
            show Steps p.tables e below (T56.setTop (mkF m 232 #[.val (.int p1), .val (.int p2), .val (.int p3), .val (.int p4), .val (.long q5), .second, .val (.int cv), .val (.int av), .val (.int bv), .val (.int ob), .val (.int ra), .val (.int md), .val (.long qq), .second, .val (.ref b11), .unset, .unset, .unset, .unset] [(.long qq)])) _
            refine X56.ldc2Long hx hown (mvT hZ (hw _ (List.mem_of_getElem? (i := 82) rfl))) (g := (mkF m 232 #[.val (.int p1), .val (.int p2), .val (.int p3), .val (.int p4), .val (.long q5), .second, .val (.int cv), .val (.int av), .val (.int bv), .val (.int ob), .val (.int ra), .val (.int md), .val (.long qq), .second, .val (.ref b11), .unset, .unset, .unset, .unset] [(.long qq)])) rfl (hb hby at_232) _ ?_
            show Steps p.tables e below (T56.setTop (mkF m 235 #[.val (.int p1), .val (.int p2), .val (.int p3), .val (.int p4), .val (.long q5), .second, .val (.int cv), .val (.int av), .val (.int bv), .val (.int ob), .val (.int ra), .val (.int md), .val (.long qq), .second, .val (.ref b11), .unset, .unset, .unset, .unset] [(.long (2147483646 : Int64)), (.long qq)])) _
            refine XS.lcmp X56.here hx rfl (hb hby at_235) rfl ?_
            by_cases hq1 : qq < (2147483646 : Int64)
            ·
              show Steps p.tables e below (T56.setTop (mkF m 236 #[.val (.int p1), .val (.int p2), .val (.int p3), .val (.int p4), .val (.long q5), .second, .val (.int cv), .val (.int av), .val (.int bv), .val (.int ob), .val (.int ra), .val (.int md), .val (.long qq), .second, .val (.ref b11), .unset, .unset, .unset, .unset] [(.int (lcmpW qq (2147483646 : Int64)))])) _
              refine XS.ifNo X56.here hx rfl (hb hby at_236) rfl ((if0 _ _).trans (tlt ((lw_lt _ _).mpr hq1)).2.1) ?_
              show Steps p.tables e below (T56.setTop (mkF m 239 #[.val (.int p1), .val (.int p2), .val (.int p3), .val (.int p4), .val (.long q5), .second, .val (.int cv), .val (.int av), .val (.int bv), .val (.int ob), .val (.int ra), .val (.int md), .val (.long qq), .second, .val (.ref b11), .unset, .unset, .unset, .unset] [])) _
              refine XS.iconst X56.here hx rfl (hb hby at_239) ?_
              show Steps p.tables e below (T56.setTop (mkF m 240 #[.val (.int p1), .val (.int p2), .val (.int p3), .val (.int p4), .val (.long q5), .second, .val (.int cv), .val (.int av), .val (.int bv), .val (.int ob), .val (.int ra), .val (.int md), .val (.long qq), .second, .val (.ref b11), .unset, .unset, .unset, .unset] [(.int (1 : Int32))])) _
              refine XS.goto X56.here hx rfl (pc0 := 240) (pc' := 244) rfl (hb hby at_240) (by decide) (by decide) ?_
              rw [show own_inr qq = 1 from (if_neg hq0).trans (if_pos hq1)] at k; exact k
            ·
              show Steps p.tables e below (T56.setTop (mkF m 236 #[.val (.int p1), .val (.int p2), .val (.int p3), .val (.int p4), .val (.long q5), .second, .val (.int cv), .val (.int av), .val (.int bv), .val (.int ob), .val (.int ra), .val (.int md), .val (.long qq), .second, .val (.ref b11), .unset, .unset, .unset, .unset] [(.int (lcmpW qq (2147483646 : Int64)))])) _
              refine XS.ifYes X56.here hx rfl (pc0 := 236) (pc' := 243) rfl (hb hby at_236) rfl ((if0 _ _).trans (flt (mt (lw_lt _ _).mp hq1)).2.1) (by decide) (by decide) ?_
              show Steps p.tables e below (T56.setTop (mkF m 243 #[.val (.int p1), .val (.int p2), .val (.int p3), .val (.int p4), .val (.long q5), .second, .val (.int cv), .val (.int av), .val (.int bv), .val (.int ob), .val (.int ra), .val (.int md), .val (.long qq), .second, .val (.ref b11), .unset, .unset, .unset, .unset] [])) _
              refine XS.iconst X56.here hx rfl (hb hby at_243) ?_
              rw [show own_inr qq = 0 from (if_neg hq0).trans (if_neg hq1)] at k; exact k)
      have ac63 : ∀ t, Steps p.tables e below (T56.setTop (mkF m 248 #[.val (.int p1), .val (.int p2), .val (.int p3), .val (.int p4), .val (.long q5), .second, .val (.int cv), .val (.int av), .val (.int bv), .val (.int ob), .val (.int ra), .val (.int md), .val (.long qq), .second, .val (.ref b11), .val (.int (own_inr qq)), .unset, .unset, .unset] [(.int ra)])) t → Steps p.tables e below (s₁.setTop (entryFrame m #[(.int p1), (.int p2), (.int p3), (.int p4), (.long q5)] maxLocals)) t := fun t k => ac62 t (by
          show Steps p.tables e below (T56.setTop (mkF m 244 #[.val (.int p1), .val (.int p2), .val (.int p3), .val (.int p4), .val (.long q5), .second, .val (.int cv), .val (.int av), .val (.int bv), .val (.int ob), .val (.int ra), .val (.int md), .val (.long qq), .second, .val (.ref b11), .unset, .unset, .unset, .unset] [(.int (own_inr qq))])) _
          refine XS.istore X56.here hx rfl (hb hby at_244) rfl (l' := #[.val (.int p1), .val (.int p2), .val (.int p3), .val (.int p4), .val (.long q5), .second, .val (.int cv), .val (.int av), .val (.int bv), .val (.int ob), .val (.int ra), .val (.int md), .val (.long qq), .second, .val (.ref b11), .val (.int (own_inr qq)), .unset, .unset, .unset]) rfl ?_
          show Steps p.tables e below (T56.setTop (mkF m 246 #[.val (.int p1), .val (.int p2), .val (.int p3), .val (.int p4), .val (.long q5), .second, .val (.int cv), .val (.int av), .val (.int bv), .val (.int ob), .val (.int ra), .val (.int md), .val (.long qq), .second, .val (.ref b11), .val (.int (own_inr qq)), .unset, .unset, .unset] [])) _
          refine XS.iload X56.here hx rfl (hb hby at_246) rfl ?_
          exact k)
      have ac64 : ∀ t, Steps p.tables e below (T56.setTop (mkF m 265 #[.val (.int p1), .val (.int p2), .val (.int p3), .val (.int p4), .val (.long q5), .second, .val (.int cv), .val (.int av), .val (.int bv), .val (.int ob), .val (.int ra), .val (.int md), .val (.long qq), .second, .val (.ref b11), .val (.int (own_inr qq)), .unset, .unset, .unset] [(.int (own_ua ra qq av))])) t → Steps p.tables e below (s₁.setTop (entryFrame m #[(.int p1), (.int p2), (.int p3), (.int p4), (.long q5)] maxLocals)) t := fun t k => ac63 t (by
          show Steps p.tables e below (T56.setTop (mkF m 248 #[.val (.int p1), .val (.int p2), .val (.int p3), .val (.int p4), .val (.long q5), .second, .val (.int cv), .val (.int av), .val (.int bv), .val (.int ob), .val (.int ra), .val (.int md), .val (.long qq), .second, .val (.ref b11), .val (.int (own_inr qq)), .unset, .unset, .unset] [(.int ra)])) _
          refine XS.ifNo X56.here hx rfl (hb hby at_248) rfl ((if0 _ _).trans (teq hra).2) ?_
          show Steps p.tables e below (T56.setTop (mkF m 251 #[.val (.int p1), .val (.int p2), .val (.int p3), .val (.int p4), .val (.long q5), .second, .val (.int cv), .val (.int av), .val (.int bv), .val (.int ob), .val (.int ra), .val (.int md), .val (.long qq), .second, .val (.ref b11), .val (.int (own_inr qq)), .unset, .unset, .unset] [])) _
          refine XS.lload X56.here hx rfl (hb hby at_251) rfl ?_
          show Steps p.tables e below (T56.setTop (mkF m 253 #[.val (.int p1), .val (.int p2), .val (.int p3), .val (.int p4), .val (.long q5), .second, .val (.int cv), .val (.int av), .val (.int bv), .val (.int ob), .val (.int ra), .val (.int md), .val (.long qq), .second, .val (.ref b11), .val (.int (own_inr qq)), .unset, .unset, .unset] [(.long qq)])) _
          refine XS.iload X56.here hx rfl (hb hby at_253) rfl ?_
          show Steps p.tables e below (T56.setTop (mkF m 255 #[.val (.int p1), .val (.int p2), .val (.int p3), .val (.int p4), .val (.long q5), .second, .val (.int cv), .val (.int av), .val (.int bv), .val (.int ob), .val (.int ra), .val (.int md), .val (.long qq), .second, .val (.ref b11), .val (.int (own_inr qq)), .unset, .unset, .unset] [(.int av), (.long qq)])) _
          refine XS.i2l X56.here hx rfl (hb hby at_255) rfl ?_
          show Steps p.tables e below (T56.setTop (mkF m 256 #[.val (.int p1), .val (.int p2), .val (.int p3), .val (.int p4), .val (.long q5), .second, .val (.int cv), .val (.int av), .val (.int bv), .val (.int ob), .val (.int ra), .val (.int md), .val (.long qq), .second, .val (.ref b11), .val (.int (own_inr qq)), .unset, .unset, .unset] [(.long (av.toInt64)), (.long qq)])) _
          refine XS.lcmp X56.here hx rfl (hb hby at_256) rfl ?_
          by_cases hqa : qq = (av.toInt64)
          ·
            show Steps p.tables e below (T56.setTop (mkF m 257 #[.val (.int p1), .val (.int p2), .val (.int p3), .val (.int p4), .val (.long q5), .second, .val (.int cv), .val (.int av), .val (.int bv), .val (.int ob), .val (.int ra), .val (.int md), .val (.long qq), .second, .val (.ref b11), .val (.int (own_inr qq)), .unset, .unset, .unset] [(.int (lcmpW qq (av.toInt64)))])) _
            refine XS.ifNo X56.here hx rfl (hb hby at_257) rfl ((if0 _ _).trans (teq ((lw_eq _ _).mpr hqa)).2) ?_
            show Steps p.tables e below (T56.setTop (mkF m 260 #[.val (.int p1), .val (.int p2), .val (.int p3), .val (.int p4), .val (.long q5), .second, .val (.int cv), .val (.int av), .val (.int bv), .val (.int ob), .val (.int ra), .val (.int md), .val (.long qq), .second, .val (.ref b11), .val (.int (own_inr qq)), .unset, .unset, .unset] [])) _
            refine XS.iconst X56.here hx rfl (hb hby at_260) ?_
            show Steps p.tables e below (T56.setTop (mkF m 261 #[.val (.int p1), .val (.int p2), .val (.int p3), .val (.int p4), .val (.long q5), .second, .val (.int cv), .val (.int av), .val (.int bv), .val (.int ob), .val (.int ra), .val (.int md), .val (.long qq), .second, .val (.ref b11), .val (.int (own_inr qq)), .unset, .unset, .unset] [(.int (1 : Int32))])) _
            refine XS.goto X56.here hx rfl (pc0 := 261) (pc' := 265) rfl (hb hby at_261) (by decide) (by decide) ?_
            rw [show own_ua ra qq av = 1 from (if_pos hra).trans (if_pos hqa)] at k; exact k
          ·
            show Steps p.tables e below (T56.setTop (mkF m 257 #[.val (.int p1), .val (.int p2), .val (.int p3), .val (.int p4), .val (.long q5), .second, .val (.int cv), .val (.int av), .val (.int bv), .val (.int ob), .val (.int ra), .val (.int md), .val (.long qq), .second, .val (.ref b11), .val (.int (own_inr qq)), .unset, .unset, .unset] [(.int (lcmpW qq (av.toInt64)))])) _
            refine XS.ifYes X56.here hx rfl (pc0 := 257) (pc' := 264) rfl (hb hby at_257) rfl ((if0 _ _).trans (feq (mt (lw_eq _ _).mp hqa)).2) (by decide) (by decide) ?_
            show Steps p.tables e below (T56.setTop (mkF m 264 #[.val (.int p1), .val (.int p2), .val (.int p3), .val (.int p4), .val (.long q5), .second, .val (.int cv), .val (.int av), .val (.int bv), .val (.int ob), .val (.int ra), .val (.int md), .val (.long qq), .second, .val (.ref b11), .val (.int (own_inr qq)), .unset, .unset, .unset] [])) _
            refine XS.iconst X56.here hx rfl (hb hby at_264) ?_
            rw [show own_ua ra qq av = 0 from (if_pos hra).trans (if_neg hqa)] at k; exact k)
      have ac65 : ∀ t, Steps p.tables e below (T56.setTop (mkF m 269 #[.val (.int p1), .val (.int p2), .val (.int p3), .val (.int p4), .val (.long q5), .second, .val (.int cv), .val (.int av), .val (.int bv), .val (.int ob), .val (.int ra), .val (.int md), .val (.long qq), .second, .val (.ref b11), .val (.int (own_inr qq)), .val (.int (own_ua ra qq av)), .unset, .unset] [(.int ob)])) t → Steps p.tables e below (s₁.setTop (entryFrame m #[(.int p1), (.int p2), (.int p3), (.int p4), (.long q5)] maxLocals)) t := fun t k => ac64 t (by
          show Steps p.tables e below (T56.setTop (mkF m 265 #[.val (.int p1), .val (.int p2), .val (.int p3), .val (.int p4), .val (.long q5), .second, .val (.int cv), .val (.int av), .val (.int bv), .val (.int ob), .val (.int ra), .val (.int md), .val (.long qq), .second, .val (.ref b11), .val (.int (own_inr qq)), .unset, .unset, .unset] [(.int (own_ua ra qq av))])) _
          refine XS.istore X56.here hx rfl (hb hby at_265) rfl (l' := #[.val (.int p1), .val (.int p2), .val (.int p3), .val (.int p4), .val (.long q5), .second, .val (.int cv), .val (.int av), .val (.int bv), .val (.int ob), .val (.int ra), .val (.int md), .val (.long qq), .second, .val (.ref b11), .val (.int (own_inr qq)), .val (.int (own_ua ra qq av)), .unset, .unset]) rfl ?_
          show Steps p.tables e below (T56.setTop (mkF m 267 #[.val (.int p1), .val (.int p2), .val (.int p3), .val (.int p4), .val (.long q5), .second, .val (.int cv), .val (.int av), .val (.int bv), .val (.int ob), .val (.int ra), .val (.int md), .val (.long qq), .second, .val (.ref b11), .val (.int (own_inr qq)), .val (.int (own_ua ra qq av)), .unset, .unset] [])) _
          refine XS.iload X56.here hx rfl (hb hby at_267) rfl ?_
          exact k)
      have ac66 : ∀ t, Steps p.tables e below (T56.setTop (mkF m 286 #[.val (.int p1), .val (.int p2), .val (.int p3), .val (.int p4), .val (.long q5), .second, .val (.int cv), .val (.int av), .val (.int bv), .val (.int ob), .val (.int ra), .val (.int md), .val (.long qq), .second, .val (.ref b11), .val (.int (own_inr qq)), .val (.int (own_ua ra qq av)), .unset, .unset] [(.int (own_ub ob qq bv))])) t → Steps p.tables e below (s₁.setTop (entryFrame m #[(.int p1), (.int p2), (.int p3), (.int p4), (.long q5)] maxLocals)) t := fun t k => ac65 t (by
          show Steps p.tables e below (T56.setTop (mkF m 269 #[.val (.int p1), .val (.int p2), .val (.int p3), .val (.int p4), .val (.long q5), .second, .val (.int cv), .val (.int av), .val (.int bv), .val (.int ob), .val (.int ra), .val (.int md), .val (.long qq), .second, .val (.ref b11), .val (.int (own_inr qq)), .val (.int (own_ua ra qq av)), .unset, .unset] [(.int ob)])) _
          refine XS.ifNo X56.here hx rfl (hb hby at_269) rfl ((if0 _ _).trans (feq hob0).1) ?_
          show Steps p.tables e below (T56.setTop (mkF m 272 #[.val (.int p1), .val (.int p2), .val (.int p3), .val (.int p4), .val (.long q5), .second, .val (.int cv), .val (.int av), .val (.int bv), .val (.int ob), .val (.int ra), .val (.int md), .val (.long qq), .second, .val (.ref b11), .val (.int (own_inr qq)), .val (.int (own_ua ra qq av)), .unset, .unset] [])) _
          refine XS.lload X56.here hx rfl (hb hby at_272) rfl ?_
          show Steps p.tables e below (T56.setTop (mkF m 274 #[.val (.int p1), .val (.int p2), .val (.int p3), .val (.int p4), .val (.long q5), .second, .val (.int cv), .val (.int av), .val (.int bv), .val (.int ob), .val (.int ra), .val (.int md), .val (.long qq), .second, .val (.ref b11), .val (.int (own_inr qq)), .val (.int (own_ua ra qq av)), .unset, .unset] [(.long qq)])) _
          refine XS.iload X56.here hx rfl (hb hby at_274) rfl ?_
          show Steps p.tables e below (T56.setTop (mkF m 276 #[.val (.int p1), .val (.int p2), .val (.int p3), .val (.int p4), .val (.long q5), .second, .val (.int cv), .val (.int av), .val (.int bv), .val (.int ob), .val (.int ra), .val (.int md), .val (.long qq), .second, .val (.ref b11), .val (.int (own_inr qq)), .val (.int (own_ua ra qq av)), .unset, .unset] [(.int bv), (.long qq)])) _
          refine XS.i2l X56.here hx rfl (hb hby at_276) rfl ?_
          show Steps p.tables e below (T56.setTop (mkF m 277 #[.val (.int p1), .val (.int p2), .val (.int p3), .val (.int p4), .val (.long q5), .second, .val (.int cv), .val (.int av), .val (.int bv), .val (.int ob), .val (.int ra), .val (.int md), .val (.long qq), .second, .val (.ref b11), .val (.int (own_inr qq)), .val (.int (own_ua ra qq av)), .unset, .unset] [(.long (bv.toInt64)), (.long qq)])) _
          refine XS.lcmp X56.here hx rfl (hb hby at_277) rfl ?_
          by_cases hqb : qq = (bv.toInt64)
          ·
            show Steps p.tables e below (T56.setTop (mkF m 278 #[.val (.int p1), .val (.int p2), .val (.int p3), .val (.int p4), .val (.long q5), .second, .val (.int cv), .val (.int av), .val (.int bv), .val (.int ob), .val (.int ra), .val (.int md), .val (.long qq), .second, .val (.ref b11), .val (.int (own_inr qq)), .val (.int (own_ua ra qq av)), .unset, .unset] [(.int (lcmpW qq (bv.toInt64)))])) _
            refine XS.ifNo X56.here hx rfl (hb hby at_278) rfl ((if0 _ _).trans (teq ((lw_eq _ _).mpr hqb)).2) ?_
            show Steps p.tables e below (T56.setTop (mkF m 281 #[.val (.int p1), .val (.int p2), .val (.int p3), .val (.int p4), .val (.long q5), .second, .val (.int cv), .val (.int av), .val (.int bv), .val (.int ob), .val (.int ra), .val (.int md), .val (.long qq), .second, .val (.ref b11), .val (.int (own_inr qq)), .val (.int (own_ua ra qq av)), .unset, .unset] [])) _
            refine XS.iconst X56.here hx rfl (hb hby at_281) ?_
            show Steps p.tables e below (T56.setTop (mkF m 282 #[.val (.int p1), .val (.int p2), .val (.int p3), .val (.int p4), .val (.long q5), .second, .val (.int cv), .val (.int av), .val (.int bv), .val (.int ob), .val (.int ra), .val (.int md), .val (.long qq), .second, .val (.ref b11), .val (.int (own_inr qq)), .val (.int (own_ua ra qq av)), .unset, .unset] [(.int (1 : Int32))])) _
            refine XS.goto X56.here hx rfl (pc0 := 282) (pc' := 286) rfl (hb hby at_282) (by decide) (by decide) ?_
            rw [show own_ub ob qq bv = 1 from (if_neg hob0).trans (if_pos hqb)] at k; exact k
          ·
            show Steps p.tables e below (T56.setTop (mkF m 278 #[.val (.int p1), .val (.int p2), .val (.int p3), .val (.int p4), .val (.long q5), .second, .val (.int cv), .val (.int av), .val (.int bv), .val (.int ob), .val (.int ra), .val (.int md), .val (.long qq), .second, .val (.ref b11), .val (.int (own_inr qq)), .val (.int (own_ua ra qq av)), .unset, .unset] [(.int (lcmpW qq (bv.toInt64)))])) _
            refine XS.ifYes X56.here hx rfl (pc0 := 278) (pc' := 285) rfl (hb hby at_278) rfl ((if0 _ _).trans (feq (mt (lw_eq _ _).mp hqb)).2) (by decide) (by decide) ?_
            show Steps p.tables e below (T56.setTop (mkF m 285 #[.val (.int p1), .val (.int p2), .val (.int p3), .val (.int p4), .val (.long q5), .second, .val (.int cv), .val (.int av), .val (.int bv), .val (.int ob), .val (.int ra), .val (.int md), .val (.long qq), .second, .val (.ref b11), .val (.int (own_inr qq)), .val (.int (own_ua ra qq av)), .unset, .unset] [])) _
            refine XS.iconst X56.here hx rfl (hb hby at_285) ?_
            rw [show own_ub ob qq bv = 0 from (if_neg hob0).trans (if_neg hqb)] at k; exact k)
      have ac67 : ∀ t, Steps p.tables e below (T56.setTop (mkF m 290 #[.val (.int p1), .val (.int p2), .val (.int p3), .val (.int p4), .val (.long q5), .second, .val (.int cv), .val (.int av), .val (.int bv), .val (.int ob), .val (.int ra), .val (.int md), .val (.long qq), .second, .val (.ref b11), .val (.int (own_inr qq)), .val (.int (own_ua ra qq av)), .val (.int (own_ub ob qq bv)), .unset] [(.int (own_inr qq))])) t → Steps p.tables e below (s₁.setTop (entryFrame m #[(.int p1), (.int p2), (.int p3), (.int p4), (.long q5)] maxLocals)) t := fun t k => ac66 t (by
          show Steps p.tables e below (T56.setTop (mkF m 286 #[.val (.int p1), .val (.int p2), .val (.int p3), .val (.int p4), .val (.long q5), .second, .val (.int cv), .val (.int av), .val (.int bv), .val (.int ob), .val (.int ra), .val (.int md), .val (.long qq), .second, .val (.ref b11), .val (.int (own_inr qq)), .val (.int (own_ua ra qq av)), .unset, .unset] [(.int (own_ub ob qq bv))])) _
          refine XS.istore X56.here hx rfl (hb hby at_286) rfl (l' := #[.val (.int p1), .val (.int p2), .val (.int p3), .val (.int p4), .val (.long q5), .second, .val (.int cv), .val (.int av), .val (.int bv), .val (.int ob), .val (.int ra), .val (.int md), .val (.long qq), .second, .val (.ref b11), .val (.int (own_inr qq)), .val (.int (own_ua ra qq av)), .val (.int (own_ub ob qq bv)), .unset]) rfl ?_
          show Steps p.tables e below (T56.setTop (mkF m 288 #[.val (.int p1), .val (.int p2), .val (.int p3), .val (.int p4), .val (.long q5), .second, .val (.int cv), .val (.int av), .val (.int bv), .val (.int ob), .val (.int ra), .val (.int md), .val (.long qq), .second, .val (.ref b11), .val (.int (own_inr qq)), .val (.int (own_ua ra qq av)), .val (.int (own_ub ob qq bv)), .unset] [])) _
          refine XS.iload X56.here hx rfl (hb hby at_288) rfl ?_
          exact k)
      have ac68 : ∀ t, Steps p.tables e below (T56.setTop (mkF m 308 #[.val (.int p1), .val (.int p2), .val (.int p3), .val (.int p4), .val (.long q5), .second, .val (.int cv), .val (.int av), .val (.int bv), .val (.int ob), .val (.int ra), .val (.int md), .val (.long qq), .second, .val (.ref b11), .val (.int (own_inr qq)), .val (.int (own_ua ra qq av)), .val (.int (own_ub ob qq bv)), .unset] [(.int (own_ex (own_inr qq) (own_ua ra qq av) (own_ub ob qq bv)))])) t → Steps p.tables e below (s₁.setTop (entryFrame m #[(.int p1), (.int p2), (.int p3), (.int p4), (.long q5)] maxLocals)) t := fun t k => ac67 t (by
          by_cases x1 : (own_inr qq) = (0 : Int32)
          ·
            show Steps p.tables e below (T56.setTop (mkF m 290 #[.val (.int p1), .val (.int p2), .val (.int p3), .val (.int p4), .val (.long q5), .second, .val (.int cv), .val (.int av), .val (.int bv), .val (.int ob), .val (.int ra), .val (.int md), .val (.long qq), .second, .val (.ref b11), .val (.int (own_inr qq)), .val (.int (own_ua ra qq av)), .val (.int (own_ub ob qq bv)), .unset] [(.int (own_inr qq))])) _
            refine XS.ifYes X56.here hx rfl (pc0 := 290) (pc' := 307) rfl (hb hby at_290) rfl ((if0 _ _).trans (teq x1).1) (by decide) (by decide) ?_
            show Steps p.tables e below (T56.setTop (mkF m 307 #[.val (.int p1), .val (.int p2), .val (.int p3), .val (.int p4), .val (.long q5), .second, .val (.int cv), .val (.int av), .val (.int bv), .val (.int ob), .val (.int ra), .val (.int md), .val (.long qq), .second, .val (.ref b11), .val (.int (own_inr qq)), .val (.int (own_ua ra qq av)), .val (.int (own_ub ob qq bv)), .unset] [])) _
            refine XS.iconst X56.here hx rfl (hb hby at_307) ?_
            rw [show (own_ex (own_inr qq) (own_ua ra qq av) (own_ub ob qq bv)) = 0 from if_pos x1] at k; exact k
          ·
            show Steps p.tables e below (T56.setTop (mkF m 290 #[.val (.int p1), .val (.int p2), .val (.int p3), .val (.int p4), .val (.long q5), .second, .val (.int cv), .val (.int av), .val (.int bv), .val (.int ob), .val (.int ra), .val (.int md), .val (.long qq), .second, .val (.ref b11), .val (.int (own_inr qq)), .val (.int (own_ua ra qq av)), .val (.int (own_ub ob qq bv)), .unset] [(.int (own_inr qq))])) _
            refine XS.ifNo X56.here hx rfl (hb hby at_290) rfl ((if0 _ _).trans (feq x1).1) ?_
            show Steps p.tables e below (T56.setTop (mkF m 293 #[.val (.int p1), .val (.int p2), .val (.int p3), .val (.int p4), .val (.long q5), .second, .val (.int cv), .val (.int av), .val (.int bv), .val (.int ob), .val (.int ra), .val (.int md), .val (.long qq), .second, .val (.ref b11), .val (.int (own_inr qq)), .val (.int (own_ua ra qq av)), .val (.int (own_ub ob qq bv)), .unset] [])) _
            refine XS.iload X56.here hx rfl (hb hby at_293) rfl ?_
            by_cases x2 : (own_ua ra qq av) = (0 : Int32)
            ·
              show Steps p.tables e below (T56.setTop (mkF m 295 #[.val (.int p1), .val (.int p2), .val (.int p3), .val (.int p4), .val (.long q5), .second, .val (.int cv), .val (.int av), .val (.int bv), .val (.int ob), .val (.int ra), .val (.int md), .val (.long qq), .second, .val (.ref b11), .val (.int (own_inr qq)), .val (.int (own_ua ra qq av)), .val (.int (own_ub ob qq bv)), .unset] [(.int (own_ua ra qq av))])) _
              refine XS.ifNo X56.here hx rfl (hb hby at_295) rfl ((if0 _ _).trans (teq x2).2) ?_
              show Steps p.tables e below (T56.setTop (mkF m 298 #[.val (.int p1), .val (.int p2), .val (.int p3), .val (.int p4), .val (.long q5), .second, .val (.int cv), .val (.int av), .val (.int bv), .val (.int ob), .val (.int ra), .val (.int md), .val (.long qq), .second, .val (.ref b11), .val (.int (own_inr qq)), .val (.int (own_ua ra qq av)), .val (.int (own_ub ob qq bv)), .unset] [])) _
              refine XS.iload X56.here hx rfl (hb hby at_298) rfl ?_
              by_cases x3 : (own_ub ob qq bv) = (0 : Int32)
              ·
                show Steps p.tables e below (T56.setTop (mkF m 300 #[.val (.int p1), .val (.int p2), .val (.int p3), .val (.int p4), .val (.long q5), .second, .val (.int cv), .val (.int av), .val (.int bv), .val (.int ob), .val (.int ra), .val (.int md), .val (.long qq), .second, .val (.ref b11), .val (.int (own_inr qq)), .val (.int (own_ua ra qq av)), .val (.int (own_ub ob qq bv)), .unset] [(.int (own_ub ob qq bv))])) _
                refine XS.ifNo X56.here hx rfl (hb hby at_300) rfl ((if0 _ _).trans (teq x3).2) ?_
                show Steps p.tables e below (T56.setTop (mkF m 303 #[.val (.int p1), .val (.int p2), .val (.int p3), .val (.int p4), .val (.long q5), .second, .val (.int cv), .val (.int av), .val (.int bv), .val (.int ob), .val (.int ra), .val (.int md), .val (.long qq), .second, .val (.ref b11), .val (.int (own_inr qq)), .val (.int (own_ua ra qq av)), .val (.int (own_ub ob qq bv)), .unset] [])) _
                refine XS.iconst X56.here hx rfl (hb hby at_303) ?_
                show Steps p.tables e below (T56.setTop (mkF m 304 #[.val (.int p1), .val (.int p2), .val (.int p3), .val (.int p4), .val (.long q5), .second, .val (.int cv), .val (.int av), .val (.int bv), .val (.int ob), .val (.int ra), .val (.int md), .val (.long qq), .second, .val (.ref b11), .val (.int (own_inr qq)), .val (.int (own_ua ra qq av)), .val (.int (own_ub ob qq bv)), .unset] [(.int (1 : Int32))])) _
                refine XS.goto X56.here hx rfl (pc0 := 304) (pc' := 308) rfl (hb hby at_304) (by decide) (by decide) ?_
                rw [show (own_ex (own_inr qq) (own_ua ra qq av) (own_ub ob qq bv)) = 1 from (if_neg x1).trans ((if_pos x2).trans (if_pos x3))] at k; exact k
              ·
                show Steps p.tables e below (T56.setTop (mkF m 300 #[.val (.int p1), .val (.int p2), .val (.int p3), .val (.int p4), .val (.long q5), .second, .val (.int cv), .val (.int av), .val (.int bv), .val (.int ob), .val (.int ra), .val (.int md), .val (.long qq), .second, .val (.ref b11), .val (.int (own_inr qq)), .val (.int (own_ua ra qq av)), .val (.int (own_ub ob qq bv)), .unset] [(.int (own_ub ob qq bv))])) _
                refine XS.ifYes X56.here hx rfl (pc0 := 300) (pc' := 307) rfl (hb hby at_300) rfl ((if0 _ _).trans (feq x3).2) (by decide) (by decide) ?_
                show Steps p.tables e below (T56.setTop (mkF m 307 #[.val (.int p1), .val (.int p2), .val (.int p3), .val (.int p4), .val (.long q5), .second, .val (.int cv), .val (.int av), .val (.int bv), .val (.int ob), .val (.int ra), .val (.int md), .val (.long qq), .second, .val (.ref b11), .val (.int (own_inr qq)), .val (.int (own_ua ra qq av)), .val (.int (own_ub ob qq bv)), .unset] [])) _
                refine XS.iconst X56.here hx rfl (hb hby at_307) ?_
                rw [show (own_ex (own_inr qq) (own_ua ra qq av) (own_ub ob qq bv)) = 0 from (if_neg x1).trans ((if_pos x2).trans (if_neg x3))] at k; exact k
            ·
              show Steps p.tables e below (T56.setTop (mkF m 295 #[.val (.int p1), .val (.int p2), .val (.int p3), .val (.int p4), .val (.long q5), .second, .val (.int cv), .val (.int av), .val (.int bv), .val (.int ob), .val (.int ra), .val (.int md), .val (.long qq), .second, .val (.ref b11), .val (.int (own_inr qq)), .val (.int (own_ua ra qq av)), .val (.int (own_ub ob qq bv)), .unset] [(.int (own_ua ra qq av))])) _
              refine XS.ifYes X56.here hx rfl (pc0 := 295) (pc' := 307) rfl (hb hby at_295) rfl ((if0 _ _).trans (feq x2).2) (by decide) (by decide) ?_
              show Steps p.tables e below (T56.setTop (mkF m 307 #[.val (.int p1), .val (.int p2), .val (.int p3), .val (.int p4), .val (.long q5), .second, .val (.int cv), .val (.int av), .val (.int bv), .val (.int ob), .val (.int ra), .val (.int md), .val (.long qq), .second, .val (.ref b11), .val (.int (own_inr qq)), .val (.int (own_ua ra qq av)), .val (.int (own_ub ob qq bv)), .unset] [])) _
              refine XS.iconst X56.here hx rfl (hb hby at_307) ?_
              rw [show (own_ex (own_inr qq) (own_ua ra qq av) (own_ub ob qq bv)) = 0 from (if_neg x1).trans (if_neg x2)] at k; exact k)
      have ac69 : ∀ t, Steps p.tables e below (T56.setTop (mkF m 314 #[.val (.int p1), .val (.int p2), .val (.int p3), .val (.int p4), .val (.long q5), .second, .val (.int cv), .val (.int av), .val (.int bv), .val (.int ob), .val (.int ra), .val (.int md), .val (.long qq), .second, .val (.ref b11), .val (.int (own_inr qq)), .val (.int (own_ua ra qq av)), .val (.int (own_ub ob qq bv)), .val (.int (own_ex (own_inr qq) (own_ua ra qq av) (own_ub ob qq bv)))] [(.long qq), (.ref b11)])) t → Steps p.tables e below (s₁.setTop (entryFrame m #[(.int p1), (.int p2), (.int p3), (.int p4), (.long q5)] maxLocals)) t := fun t k => ac68 t (by
          show Steps p.tables e below (T56.setTop (mkF m 308 #[.val (.int p1), .val (.int p2), .val (.int p3), .val (.int p4), .val (.long q5), .second, .val (.int cv), .val (.int av), .val (.int bv), .val (.int ob), .val (.int ra), .val (.int md), .val (.long qq), .second, .val (.ref b11), .val (.int (own_inr qq)), .val (.int (own_ua ra qq av)), .val (.int (own_ub ob qq bv)), .unset] [(.int (own_ex (own_inr qq) (own_ua ra qq av) (own_ub ob qq bv)))])) _
          refine XS.istore X56.here hx rfl (hb hby at_308) rfl (l' := #[.val (.int p1), .val (.int p2), .val (.int p3), .val (.int p4), .val (.long q5), .second, .val (.int cv), .val (.int av), .val (.int bv), .val (.int ob), .val (.int ra), .val (.int md), .val (.long qq), .second, .val (.ref b11), .val (.int (own_inr qq)), .val (.int (own_ua ra qq av)), .val (.int (own_ub ob qq bv)), .val (.int (own_ex (own_inr qq) (own_ua ra qq av) (own_ub ob qq bv)))]) rfl ?_
          show Steps p.tables e below (T56.setTop (mkF m 310 #[.val (.int p1), .val (.int p2), .val (.int p3), .val (.int p4), .val (.long q5), .second, .val (.int cv), .val (.int av), .val (.int bv), .val (.int ob), .val (.int ra), .val (.int md), .val (.long qq), .second, .val (.ref b11), .val (.int (own_inr qq)), .val (.int (own_ua ra qq av)), .val (.int (own_ub ob qq bv)), .val (.int (own_ex (own_inr qq) (own_ua ra qq av) (own_ub ob qq bv)))] [])) _
          refine XS.aload X56.here hx rfl (hb hby at_310) rfl rfl ?_
          show Steps p.tables e below (T56.setTop (mkF m 312 #[.val (.int p1), .val (.int p2), .val (.int p3), .val (.int p4), .val (.long q5), .second, .val (.int cv), .val (.int av), .val (.int bv), .val (.int ob), .val (.int ra), .val (.int md), .val (.long qq), .second, .val (.ref b11), .val (.int (own_inr qq)), .val (.int (own_ua ra qq av)), .val (.int (own_ub ob qq bv)), .val (.int (own_ex (own_inr qq) (own_ua ra qq av) (own_ub ob qq bv)))] [(.ref b11)])) _
          refine XS.lload X56.here hx rfl (hb hby at_312) rfl ?_
          exact k)
      obtain ⟨cq70, kq70, q70a, q70b, q70c⟩ := isOf hZ rfl HB56.1
      obtain ⟨_, _, ⟨T70, L70, k70, n70⟩, -, X70, ⟨Lc70, hQ70, l70, y70, z70⟩, st70⟩ := X56.virtualBack hx (y := (⟨"com/example/twinbase/twinbase/CellSpace", "isFree", "(J)Z"⟩ : MethodName)) (z := (⟨"com/example/twinbase/twinbase/CellSpace", "isFree", "(J)Z"⟩ : MethodName)) hown (mvT hZ (hw _ (List.mem_of_getElem? (i := 75) rfl))) (mvT hZ (hw _ (List.mem_of_getElem? (i := 76) rfl))) (notFace_of_selects (args := #[]) (mvT hZ (hw _ (List.mem_of_getElem? (i := 78) rfl)))) (mvT hZ (hw _ (List.mem_of_getElem? (i := 78) rfl))) (mvT hZ (hw _ (List.mem_of_getElem? (i := 77) rfl))) (by decide) (backOf (W := 0) (rm12 l Z a0 hw [] b11 qq _ _ bC56 bU56 bF56 bR15 ln56 _ (fun i => if i = bvn / 64 then (fun i => if i = avn / 64 then (fun _ => (0 : Int64)) i ||| own_sh av else (fun _ => (0 : Int64)) i) i ||| own_sh bv else (fun i => if i = avn / 64 then (fun _ => (0 : Int64)) i ||| own_sh av else (fun _ => (0 : Int64)) i) i) _ _ T56.heap n0 Z56 HB56) hZ (hw _ (List.mem_of_getElem? (i := 79) rfl)) (hw _ (List.mem_of_getElem? (i := 2) rfl)) (by decide) (by decide)) q70a q70c (g := (mkF m 314 #[.val (.int p1), .val (.int p2), .val (.int p3), .val (.int p4), .val (.long q5), .second, .val (.int cv), .val (.int av), .val (.int bv), .val (.int ob), .val (.int ra), .val (.int md), .val (.long qq), .second, .val (.ref b11), .val (.int (own_inr qq)), .val (.int (own_ua ra qq av)), .val (.int (own_ub ob qq bv)), .val (.int (own_ex (own_inr qq) (own_ua ra qq av) (own_ub ob qq bv)))] [(.long qq), (.ref b11)])) rfl (by rw [hml]; rfl) (Steps.refl _) (argsL := [(.long qq)]) (rest := []) (lenOf pd_9 rfl) rfl (by show 2 * 0 + _ ≤ _; exact Nat.le_of_eq rfl) (hb hby at_314) (fun _ _ => ⟨rfl, rfl, (by decide : 14 + 0 ≤ _), (by decide : 3161 + 0 ≤ _)⟩)
      dsimp only [Pt.U, Pt.locs, Pt.cells, Pt.slots] at X70 l70 y70 z70 st70 hQ70
      subst l70 y70 z70
      obtain ⟨rfl, N70q, Qe70⟩ := hQ70
      have N70 := Fr.app N56 N70q
      have ac71 : ∀ t, Steps p.tables e below (T70.setTop (mkF m 317 #[.val (.int p1), .val (.int p2), .val (.int p3), .val (.int p4), .val (.long q5), .second, .val (.int cv), .val (.int av), .val (.int bv), .val (.int ob), .val (.int ra), .val (.int md), .val (.long qq), .second, .val (.ref b11), .val (.int (own_inr qq)), .val (.int (own_ua ra qq av)), .val (.int (own_ub ob qq bv)), .val (.int (own_ex (own_inr qq) (own_ua ra qq av) (own_ub ob qq bv)))] [(.int (own_fr qq ln56 (fun i => if i = bvn / 64 then (fun i => if i = avn / 64 then (fun _ => (0 : Int64)) i ||| own_sh av else (fun _ => (0 : Int64)) i) i ||| own_sh bv else (fun i => if i = avn / 64 then (fun _ => (0 : Int64)) i ||| own_sh av else (fun _ => (0 : Int64)) i) i)))])) t → Steps p.tables e below (s₁.setTop (entryFrame m #[(.int p1), (.int p2), (.int p3), (.int p4), (.long q5)] maxLocals)) t := fun t k => ac69 t (st70.trans k)
      have hlast : own_fr qq ln56 (fun i => if i = bvn / 64 then (fun i => if i = avn / 64 then (fun _ => (0 : Int64)) i ||| own_sh av else (fun _ => (0 : Int64)) i) i ||| own_sh bv else (fun i => if i = avn / 64 then (fun _ => (0 : Int64)) i ||| own_sh av else (fun _ => (0 : Int64)) i) i) = (own_ex (own_inr qq) (own_ua ra qq av) (own_ub ob qq bv)) := own_last hL2 havn hbvn hA2 hB2 huF (fun k => by simp [hra, hob0])
      have ac72 : ∀ t, Steps p.tables e below (T70.setTop (mkF m 327 #[.val (.int p1), .val (.int p2), .val (.int p3), .val (.int p4), .val (.long q5), .second, .val (.int cv), .val (.int av), .val (.int bv), .val (.int ob), .val (.int ra), .val (.int md), .val (.long qq), .second, .val (.ref b11), .val (.int (own_inr qq)), .val (.int (own_ua ra qq av)), .val (.int (own_ub ob qq bv)), .val (.int (own_ex (own_inr qq) (own_ua ra qq av) (own_ub ob qq bv)))] [(.int (1 : Int32))])) t → Steps p.tables e below (s₁.setTop (entryFrame m #[(.int p1), (.int p2), (.int p3), (.int p4), (.long q5)] maxLocals)) t := fun t k => ac71 t (by
          show Steps p.tables e below (T70.setTop (mkF m 317 #[.val (.int p1), .val (.int p2), .val (.int p3), .val (.int p4), .val (.long q5), .second, .val (.int cv), .val (.int av), .val (.int bv), .val (.int ob), .val (.int ra), .val (.int md), .val (.long qq), .second, .val (.ref b11), .val (.int (own_inr qq)), .val (.int (own_ua ra qq av)), .val (.int (own_ub ob qq bv)), .val (.int (own_ex (own_inr qq) (own_ua ra qq av) (own_ub ob qq bv)))] [(.int (own_fr qq ln56 (fun i => if i = bvn / 64 then (fun i => if i = avn / 64 then (fun _ => (0 : Int64)) i ||| own_sh av else (fun _ => (0 : Int64)) i) i ||| own_sh bv else (fun i => if i = avn / 64 then (fun _ => (0 : Int64)) i ||| own_sh av else (fun _ => (0 : Int64)) i) i)))])) _
          refine XS.iload X70.here hx rfl (hb hby at_317) rfl ?_
          show Steps p.tables e below (T70.setTop (mkF m 319 #[.val (.int p1), .val (.int p2), .val (.int p3), .val (.int p4), .val (.long q5), .second, .val (.int cv), .val (.int av), .val (.int bv), .val (.int ob), .val (.int ra), .val (.int md), .val (.long qq), .second, .val (.ref b11), .val (.int (own_inr qq)), .val (.int (own_ua ra qq av)), .val (.int (own_ub ob qq bv)), .val (.int (own_ex (own_inr qq) (own_ua ra qq av) (own_ub ob qq bv)))] [(.int (own_ex (own_inr qq) (own_ua ra qq av) (own_ub ob qq bv))), (.int (own_fr qq ln56 (fun i => if i = bvn / 64 then (fun i => if i = avn / 64 then (fun _ => (0 : Int64)) i ||| own_sh av else (fun _ => (0 : Int64)) i) i ||| own_sh bv else (fun i => if i = avn / 64 then (fun _ => (0 : Int64)) i ||| own_sh av else (fun _ => (0 : Int64)) i) i)))])) _
          refine XS.icmpNo X70.here hx rfl (hb hby at_319) rfl (teq hlast).2 ?_
          show Steps p.tables e below (T70.setTop (mkF m 322 #[.val (.int p1), .val (.int p2), .val (.int p3), .val (.int p4), .val (.long q5), .second, .val (.int cv), .val (.int av), .val (.int bv), .val (.int ob), .val (.int ra), .val (.int md), .val (.long qq), .second, .val (.ref b11), .val (.int (own_inr qq)), .val (.int (own_ua ra qq av)), .val (.int (own_ub ob qq bv)), .val (.int (own_ex (own_inr qq) (own_ua ra qq av) (own_ub ob qq bv)))] [])) _
          refine XS.iconst X70.here hx rfl (hb hby at_322) ?_
          show Steps p.tables e below (T70.setTop (mkF m 323 #[.val (.int p1), .val (.int p2), .val (.int p3), .val (.int p4), .val (.long q5), .second, .val (.int cv), .val (.int av), .val (.int bv), .val (.int ob), .val (.int ra), .val (.int md), .val (.long qq), .second, .val (.ref b11), .val (.int (own_inr qq)), .val (.int (own_ua ra qq av)), .val (.int (own_ub ob qq bv)), .val (.int (own_ex (own_inr qq) (own_ua ra qq av) (own_ub ob qq bv)))] [(.int (1 : Int32))])) _
          refine XS.goto X70.here hx rfl (pc0 := 323) (pc' := 327) rfl (hb hby at_323) (by decide) (by decide) ?_
          exact k)
      obtain ⟨fs, hr, hrun, hended, hW, hsame⟩ := X70.leave (v := some (.int (1 : Int32))) (fun h => by rw [Bd.returns] at h; cases h) (BodyLoose.notSynchronized Bd)
      refine ⟨_, _, ac72 _ ?_, hrun, hended, _, _, rfl, ?_, ⟨_, rfl⟩, hW, hsame.mono (by decide) (by decide)⟩
      · show Steps p.tables e below (T70.setTop (mkF m 327 #[.val (.int p1), .val (.int p2), .val (.int p3), .val (.int p4), .val (.long q5), .second, .val (.int cv), .val (.int av), .val (.int bv), .val (.int ob), .val (.int ra), .val (.int md), .val (.long qq), .second, .val (.ref b11), .val (.int (own_inr qq)), .val (.int (own_ua ra qq av)), .val (.int (own_ub ob qq bv)), .val (.int (own_ex (own_inr qq) (own_ua ra qq av) (own_ub ob qq bv)))] [(.int (1 : Int32))])) _
        exact retN X70 hx (t := .boolean) Bd.returns (by simp) (hb hby at_327) hr
      · show Q0 Z p1 p2 p3 p4 q5 frv h0 n0 _ T70.heap _
        rw [Qe70]
        exact ⟨rfl, N70⟩
    ·
      have ac73 : ∀ t, Steps p.tables e below (T56.setTop (mkF m 220 #[.val (.int p1), .val (.int p2), .val (.int p3), .val (.int p4), .val (.long q5), .second, .val (.int cv), .val (.int av), .val (.int bv), .val (.int ob), .val (.int ra), .val (.int md), .val (.long qq), .second, .val (.ref b11), .unset, .unset, .unset, .unset] [(.int av), (.ref b11)])) t → Steps p.tables e below (s₁.setTop (entryFrame m #[(.int p1), (.int p2), (.int p3), (.int p4), (.long q5)] maxLocals)) t := fun t k => ac60 t (by
          show Steps p.tables e below (T56.setTop (mkF m 213 #[.val (.int p1), .val (.int p2), .val (.int p3), .val (.int p4), .val (.long q5), .second, .val (.int cv), .val (.int av), .val (.int bv), .val (.int ob), .val (.int ra), .val (.int md), .val (.long qq), .second, .val (.ref b11), .unset, .unset, .unset, .unset] [(.int ra)])) _
          refine XS.ifNo X56.here hx rfl (hb hby at_213) rfl ((if0 _ _).trans (feq hra).1) ?_
          show Steps p.tables e below (T56.setTop (mkF m 216 #[.val (.int p1), .val (.int p2), .val (.int p3), .val (.int p4), .val (.long q5), .second, .val (.int cv), .val (.int av), .val (.int bv), .val (.int ob), .val (.int ra), .val (.int md), .val (.long qq), .second, .val (.ref b11), .unset, .unset, .unset, .unset] [])) _
          refine XS.aload X56.here hx rfl (hb hby at_216) rfl rfl ?_
          show Steps p.tables e below (T56.setTop (mkF m 218 #[.val (.int p1), .val (.int p2), .val (.int p3), .val (.int p4), .val (.long q5), .second, .val (.int cv), .val (.int av), .val (.int bv), .val (.int ob), .val (.int ra), .val (.int md), .val (.long qq), .second, .val (.ref b11), .unset, .unset, .unset, .unset] [(.ref b11)])) _
          refine XS.iload X56.here hx rfl (hb hby at_218) rfl ?_
          exact k)
      obtain ⟨cq74, kq74, q74a, q74b, q74c⟩ := isOf hZ rfl HB56.1
      obtain ⟨_, _, ⟨T74, L74, k74, n74⟩, -, X74, ⟨Lc74, hQ74, l74, y74, z74⟩, st74⟩ := X56.virtualBack hx (y := (⟨"com/example/twinbase/twinbase/CellSpace", "release", "(I)V"⟩ : MethodName)) (z := (⟨"com/example/twinbase/twinbase/CellSpace", "release", "(I)V"⟩ : MethodName)) hown (mvT hZ (hw _ (List.mem_of_getElem? (i := 84) rfl))) (mvT hZ (hw _ (List.mem_of_getElem? (i := 85) rfl))) (notFace_of_selects (args := #[]) (mvT hZ (hw _ (List.mem_of_getElem? (i := 87) rfl)))) (mvT hZ (hw _ (List.mem_of_getElem? (i := 87) rfl))) (mvT hZ (hw _ (List.mem_of_getElem? (i := 86) rfl))) (by decide) (backOf (W := 0) (rm13 l Z a0 hw [] b11 av _ _ bC56 bU56 bF56 bR15 ln56 _ (fun i => if i = bvn / 64 then (fun i => if i = avn / 64 then (fun _ => (0 : Int64)) i ||| own_sh av else (fun _ => (0 : Int64)) i) i ||| own_sh bv else (fun i => if i = avn / 64 then (fun _ => (0 : Int64)) i ||| own_sh av else (fun _ => (0 : Int64)) i) i) _ _ avn frv T56.heap n0 Z56 HB56 havn hA2 g_b11 Sf58) hZ (hw _ (List.mem_of_getElem? (i := 88) rfl)) (hw _ (List.mem_of_getElem? (i := 2) rfl)) (by decide) (by decide)) q74a q74c (g := (mkF m 220 #[.val (.int p1), .val (.int p2), .val (.int p3), .val (.int p4), .val (.long q5), .second, .val (.int cv), .val (.int av), .val (.int bv), .val (.int ob), .val (.int ra), .val (.int md), .val (.long qq), .second, .val (.ref b11), .unset, .unset, .unset, .unset] [(.int av), (.ref b11)])) rfl (by rw [hml]; rfl) (Steps.refl _) (argsL := [(.int av)]) (rest := []) (lenOf pd_0 rfl) rfl (by show 2 * 0 + _ ≤ _; exact Nat.le_of_eq rfl) (hb hby at_220) (fun _ _ => ⟨rfl, rfl, (by decide : 14 + 0 ≤ _), (by decide : 3161 + 0 ≤ _)⟩)
      dsimp only [Pt.U, Pt.locs, Pt.cells, Pt.slots] at X74 l74 y74 z74 st74 hQ74
      subst l74 y74 z74
      obtain ⟨fC74, ff74, r74, lo74, rfl, N74q, K74q, HB74⟩ := hQ74
      have N74 := Fr.app N56 N74q
      have Ef75 := HB56.1.keep K74q
      have Sf76 := own_Sta_keep1 Sf58 K74q (allS (own_cellE HB56.1) (allS (own_cellV HB56.2.2.2.2.2.2.2.1) (allS (own_cellV HB56.2.2.2.2.2.2.2.2.1) (allS (own_cellV HB56.2.2.2.2.2.2.2.2.2.1) (allS (own_cellV HB56.2.2.2.2.2.2.2.2.2.2.1) all0)))))
      have Z74 : n0 ≤ T74.heap.size := Nat.le_trans Z56 K74q.1
      have ac77 : ∀ t, Steps p.tables e below (T74.setTop (mkF m 223 #[.val (.int p1), .val (.int p2), .val (.int p3), .val (.int p4), .val (.long q5), .second, .val (.int cv), .val (.int av), .val (.int bv), .val (.int ob), .val (.int ra), .val (.int md), .val (.long qq), .second, .val (.ref b11), .unset, .unset, .unset, .unset] [])) t → Steps p.tables e below (s₁.setTop (entryFrame m #[(.int p1), (.int p2), (.int p3), (.int p4), (.long q5)] maxLocals)) t := fun t k => ac73 t (st74.trans k)
      have huG := own_U_del havn huF
      have ac78 : ∀ t, Steps p.tables e below (T74.setTop (mkF m 227 #[.val (.int p1), .val (.int p2), .val (.int p3), .val (.int p4), .val (.long q5), .second, .val (.int cv), .val (.int av), .val (.int bv), .val (.int ob), .val (.int ra), .val (.int md), .val (.long qq), .second, .val (.ref b11), .unset, .unset, .unset, .unset] [(.int (lcmpW qq (0 : Int64)))])) t → Steps p.tables e below (s₁.setTop (entryFrame m #[(.int p1), (.int p2), (.int p3), (.int p4), (.long q5)] maxLocals)) t := fun t k => ac77 t (by
          show Steps p.tables e below (T74.setTop (mkF m 223 #[.val (.int p1), .val (.int p2), .val (.int p3), .val (.int p4), .val (.long q5), .second, .val (.int cv), .val (.int av), .val (.int bv), .val (.int ob), .val (.int ra), .val (.int md), .val (.long qq), .second, .val (.ref b11), .unset, .unset, .unset, .unset] [])) _
          refine XS.lload X74.here hx rfl (hb hby at_223) rfl ?_
          show Steps p.tables e below (T74.setTop (mkF m 225 #[.val (.int p1), .val (.int p2), .val (.int p3), .val (.int p4), .val (.long q5), .second, .val (.int cv), .val (.int av), .val (.int bv), .val (.int ob), .val (.int ra), .val (.int md), .val (.long qq), .second, .val (.ref b11), .unset, .unset, .unset, .unset] [(.long qq)])) _
          refine XS.lconst X74.here hx rfl (hb hby at_225) ?_
          show Steps p.tables e below (T74.setTop (mkF m 226 #[.val (.int p1), .val (.int p2), .val (.int p3), .val (.int p4), .val (.long q5), .second, .val (.int cv), .val (.int av), .val (.int bv), .val (.int ob), .val (.int ra), .val (.int md), .val (.long qq), .second, .val (.ref b11), .unset, .unset, .unset, .unset] [(.long (0 : Int64)), (.long qq)])) _
          refine XS.lcmp X74.here hx rfl (hb hby at_226) rfl ?_
          exact k)
      have ac79 : ∀ t, Steps p.tables e below (T74.setTop (mkF m 244 #[.val (.int p1), .val (.int p2), .val (.int p3), .val (.int p4), .val (.long q5), .second, .val (.int cv), .val (.int av), .val (.int bv), .val (.int ob), .val (.int ra), .val (.int md), .val (.long qq), .second, .val (.ref b11), .unset, .unset, .unset, .unset] [(.int (own_inr qq))])) t → Steps p.tables e below (s₁.setTop (entryFrame m #[(.int p1), (.int p2), (.int p3), (.int p4), (.long q5)] maxLocals)) t := fun t k => ac78 t (by
          by_cases hq0 : qq < (0 : Int64)
          ·
            show Steps p.tables e below (T74.setTop (mkF m 227 #[.val (.int p1), .val (.int p2), .val (.int p3), .val (.int p4), .val (.long q5), .second, .val (.int cv), .val (.int av), .val (.int bv), .val (.int ob), .val (.int ra), .val (.int md), .val (.long qq), .second, .val (.ref b11), .unset, .unset, .unset, .unset] [(.int (lcmpW qq (0 : Int64)))])) _
            refine XS.ifYes X74.here hx rfl (pc0 := 227) (pc' := 243) rfl (hb hby at_227) rfl ((if0 _ _).trans (tlt ((lw_lt _ _).mpr hq0)).1) (by decide) (by decide) ?_
            show Steps p.tables e below (T74.setTop (mkF m 243 #[.val (.int p1), .val (.int p2), .val (.int p3), .val (.int p4), .val (.long q5), .second, .val (.int cv), .val (.int av), .val (.int bv), .val (.int ob), .val (.int ra), .val (.int md), .val (.long qq), .second, .val (.ref b11), .unset, .unset, .unset, .unset] [])) _
            refine XS.iconst X74.here hx rfl (hb hby at_243) ?_
            rw [show own_inr qq = 0 from if_pos hq0] at k; exact k
          ·
            show Steps p.tables e below (T74.setTop (mkF m 227 #[.val (.int p1), .val (.int p2), .val (.int p3), .val (.int p4), .val (.long q5), .second, .val (.int cv), .val (.int av), .val (.int bv), .val (.int ob), .val (.int ra), .val (.int md), .val (.long qq), .second, .val (.ref b11), .unset, .unset, .unset, .unset] [(.int (lcmpW qq (0 : Int64)))])) _
            refine XS.ifNo X74.here hx rfl (hb hby at_227) rfl ((if0 _ _).trans (flt (mt (lw_lt _ _).mp hq0)).1) ?_
            show Steps p.tables e below (T74.setTop (mkF m 230 #[.val (.int p1), .val (.int p2), .val (.int p3), .val (.int p4), .val (.long q5), .second, .val (.int cv), .val (.int av), .val (.int bv), .val (.int ob), .val (.int ra), .val (.int md), .val (.long qq), .second, .val (.ref b11), .unset, .unset, .unset, .unset] [])) _
            refine XS.lload X74.here hx rfl (hb hby at_230) rfl ?_
            show Steps p.tables e below (T74.setTop (mkF m 232 #[.val (.int p1), .val (.int p2), .val (.int p3), .val (.int p4), .val (.long q5), .second, .val (.int cv), .val (.int av), .val (.int bv), .val (.int ob), .val (.int ra), .val (.int md), .val (.long qq), .second, .val (.ref b11), .unset, .unset, .unset, .unset] [(.long qq)])) _
            refine X74.ldc2Long hx hown (mvT hZ (hw _ (List.mem_of_getElem? (i := 82) rfl))) (g := (mkF m 232 #[.val (.int p1), .val (.int p2), .val (.int p3), .val (.int p4), .val (.long q5), .second, .val (.int cv), .val (.int av), .val (.int bv), .val (.int ob), .val (.int ra), .val (.int md), .val (.long qq), .second, .val (.ref b11), .unset, .unset, .unset, .unset] [(.long qq)])) rfl (hb hby at_232) _ ?_
            show Steps p.tables e below (T74.setTop (mkF m 235 #[.val (.int p1), .val (.int p2), .val (.int p3), .val (.int p4), .val (.long q5), .second, .val (.int cv), .val (.int av), .val (.int bv), .val (.int ob), .val (.int ra), .val (.int md), .val (.long qq), .second, .val (.ref b11), .unset, .unset, .unset, .unset] [(.long (2147483646 : Int64)), (.long qq)])) _
            refine XS.lcmp X74.here hx rfl (hb hby at_235) rfl ?_
            by_cases hq1 : qq < (2147483646 : Int64)
            ·
              show Steps p.tables e below (T74.setTop (mkF m 236 #[.val (.int p1), .val (.int p2), .val (.int p3), .val (.int p4), .val (.long q5), .second, .val (.int cv), .val (.int av), .val (.int bv), .val (.int ob), .val (.int ra), .val (.int md), .val (.long qq), .second, .val (.ref b11), .unset, .unset, .unset, .unset] [(.int (lcmpW qq (2147483646 : Int64)))])) _
              refine XS.ifNo X74.here hx rfl (hb hby at_236) rfl ((if0 _ _).trans (tlt ((lw_lt _ _).mpr hq1)).2.1) ?_
              show Steps p.tables e below (T74.setTop (mkF m 239 #[.val (.int p1), .val (.int p2), .val (.int p3), .val (.int p4), .val (.long q5), .second, .val (.int cv), .val (.int av), .val (.int bv), .val (.int ob), .val (.int ra), .val (.int md), .val (.long qq), .second, .val (.ref b11), .unset, .unset, .unset, .unset] [])) _
              refine XS.iconst X74.here hx rfl (hb hby at_239) ?_
              show Steps p.tables e below (T74.setTop (mkF m 240 #[.val (.int p1), .val (.int p2), .val (.int p3), .val (.int p4), .val (.long q5), .second, .val (.int cv), .val (.int av), .val (.int bv), .val (.int ob), .val (.int ra), .val (.int md), .val (.long qq), .second, .val (.ref b11), .unset, .unset, .unset, .unset] [(.int (1 : Int32))])) _
              refine XS.goto X74.here hx rfl (pc0 := 240) (pc' := 244) rfl (hb hby at_240) (by decide) (by decide) ?_
              rw [show own_inr qq = 1 from (if_neg hq0).trans (if_pos hq1)] at k; exact k
            ·
              show Steps p.tables e below (T74.setTop (mkF m 236 #[.val (.int p1), .val (.int p2), .val (.int p3), .val (.int p4), .val (.long q5), .second, .val (.int cv), .val (.int av), .val (.int bv), .val (.int ob), .val (.int ra), .val (.int md), .val (.long qq), .second, .val (.ref b11), .unset, .unset, .unset, .unset] [(.int (lcmpW qq (2147483646 : Int64)))])) _
              refine XS.ifYes X74.here hx rfl (pc0 := 236) (pc' := 243) rfl (hb hby at_236) rfl ((if0 _ _).trans (flt (mt (lw_lt _ _).mp hq1)).2.1) (by decide) (by decide) ?_
              show Steps p.tables e below (T74.setTop (mkF m 243 #[.val (.int p1), .val (.int p2), .val (.int p3), .val (.int p4), .val (.long q5), .second, .val (.int cv), .val (.int av), .val (.int bv), .val (.int ob), .val (.int ra), .val (.int md), .val (.long qq), .second, .val (.ref b11), .unset, .unset, .unset, .unset] [])) _
              refine XS.iconst X74.here hx rfl (hb hby at_243) ?_
              rw [show own_inr qq = 0 from (if_neg hq0).trans (if_neg hq1)] at k; exact k)
      have ac80 : ∀ t, Steps p.tables e below (T74.setTop (mkF m 248 #[.val (.int p1), .val (.int p2), .val (.int p3), .val (.int p4), .val (.long q5), .second, .val (.int cv), .val (.int av), .val (.int bv), .val (.int ob), .val (.int ra), .val (.int md), .val (.long qq), .second, .val (.ref b11), .val (.int (own_inr qq)), .unset, .unset, .unset] [(.int ra)])) t → Steps p.tables e below (s₁.setTop (entryFrame m #[(.int p1), (.int p2), (.int p3), (.int p4), (.long q5)] maxLocals)) t := fun t k => ac79 t (by
          show Steps p.tables e below (T74.setTop (mkF m 244 #[.val (.int p1), .val (.int p2), .val (.int p3), .val (.int p4), .val (.long q5), .second, .val (.int cv), .val (.int av), .val (.int bv), .val (.int ob), .val (.int ra), .val (.int md), .val (.long qq), .second, .val (.ref b11), .unset, .unset, .unset, .unset] [(.int (own_inr qq))])) _
          refine XS.istore X74.here hx rfl (hb hby at_244) rfl (l' := #[.val (.int p1), .val (.int p2), .val (.int p3), .val (.int p4), .val (.long q5), .second, .val (.int cv), .val (.int av), .val (.int bv), .val (.int ob), .val (.int ra), .val (.int md), .val (.long qq), .second, .val (.ref b11), .val (.int (own_inr qq)), .unset, .unset, .unset]) rfl ?_
          show Steps p.tables e below (T74.setTop (mkF m 246 #[.val (.int p1), .val (.int p2), .val (.int p3), .val (.int p4), .val (.long q5), .second, .val (.int cv), .val (.int av), .val (.int bv), .val (.int ob), .val (.int ra), .val (.int md), .val (.long qq), .second, .val (.ref b11), .val (.int (own_inr qq)), .unset, .unset, .unset] [])) _
          refine XS.iload X74.here hx rfl (hb hby at_246) rfl ?_
          exact k)
      have ac81 : ∀ t, Steps p.tables e below (T74.setTop (mkF m 265 #[.val (.int p1), .val (.int p2), .val (.int p3), .val (.int p4), .val (.long q5), .second, .val (.int cv), .val (.int av), .val (.int bv), .val (.int ob), .val (.int ra), .val (.int md), .val (.long qq), .second, .val (.ref b11), .val (.int (own_inr qq)), .unset, .unset, .unset] [(.int (own_ua ra qq av))])) t → Steps p.tables e below (s₁.setTop (entryFrame m #[(.int p1), (.int p2), (.int p3), (.int p4), (.long q5)] maxLocals)) t := fun t k => ac80 t (by
          show Steps p.tables e below (T74.setTop (mkF m 248 #[.val (.int p1), .val (.int p2), .val (.int p3), .val (.int p4), .val (.long q5), .second, .val (.int cv), .val (.int av), .val (.int bv), .val (.int ob), .val (.int ra), .val (.int md), .val (.long qq), .second, .val (.ref b11), .val (.int (own_inr qq)), .unset, .unset, .unset] [(.int ra)])) _
          refine XS.ifYes X74.here hx rfl (pc0 := 248) (pc' := 264) rfl (hb hby at_248) rfl ((if0 _ _).trans (feq hra).2) (by decide) (by decide) ?_
          show Steps p.tables e below (T74.setTop (mkF m 264 #[.val (.int p1), .val (.int p2), .val (.int p3), .val (.int p4), .val (.long q5), .second, .val (.int cv), .val (.int av), .val (.int bv), .val (.int ob), .val (.int ra), .val (.int md), .val (.long qq), .second, .val (.ref b11), .val (.int (own_inr qq)), .unset, .unset, .unset] [])) _
          refine XS.iconst X74.here hx rfl (hb hby at_264) ?_
          rw [show own_ua ra qq av = 0 from if_neg hra] at k; exact k)
      have ac82 : ∀ t, Steps p.tables e below (T74.setTop (mkF m 269 #[.val (.int p1), .val (.int p2), .val (.int p3), .val (.int p4), .val (.long q5), .second, .val (.int cv), .val (.int av), .val (.int bv), .val (.int ob), .val (.int ra), .val (.int md), .val (.long qq), .second, .val (.ref b11), .val (.int (own_inr qq)), .val (.int (own_ua ra qq av)), .unset, .unset] [(.int ob)])) t → Steps p.tables e below (s₁.setTop (entryFrame m #[(.int p1), (.int p2), (.int p3), (.int p4), (.long q5)] maxLocals)) t := fun t k => ac81 t (by
          show Steps p.tables e below (T74.setTop (mkF m 265 #[.val (.int p1), .val (.int p2), .val (.int p3), .val (.int p4), .val (.long q5), .second, .val (.int cv), .val (.int av), .val (.int bv), .val (.int ob), .val (.int ra), .val (.int md), .val (.long qq), .second, .val (.ref b11), .val (.int (own_inr qq)), .unset, .unset, .unset] [(.int (own_ua ra qq av))])) _
          refine XS.istore X74.here hx rfl (hb hby at_265) rfl (l' := #[.val (.int p1), .val (.int p2), .val (.int p3), .val (.int p4), .val (.long q5), .second, .val (.int cv), .val (.int av), .val (.int bv), .val (.int ob), .val (.int ra), .val (.int md), .val (.long qq), .second, .val (.ref b11), .val (.int (own_inr qq)), .val (.int (own_ua ra qq av)), .unset, .unset]) rfl ?_
          show Steps p.tables e below (T74.setTop (mkF m 267 #[.val (.int p1), .val (.int p2), .val (.int p3), .val (.int p4), .val (.long q5), .second, .val (.int cv), .val (.int av), .val (.int bv), .val (.int ob), .val (.int ra), .val (.int md), .val (.long qq), .second, .val (.ref b11), .val (.int (own_inr qq)), .val (.int (own_ua ra qq av)), .unset, .unset] [])) _
          refine XS.iload X74.here hx rfl (hb hby at_267) rfl ?_
          exact k)
      have ac83 : ∀ t, Steps p.tables e below (T74.setTop (mkF m 286 #[.val (.int p1), .val (.int p2), .val (.int p3), .val (.int p4), .val (.long q5), .second, .val (.int cv), .val (.int av), .val (.int bv), .val (.int ob), .val (.int ra), .val (.int md), .val (.long qq), .second, .val (.ref b11), .val (.int (own_inr qq)), .val (.int (own_ua ra qq av)), .unset, .unset] [(.int (own_ub ob qq bv))])) t → Steps p.tables e below (s₁.setTop (entryFrame m #[(.int p1), (.int p2), (.int p3), (.int p4), (.long q5)] maxLocals)) t := fun t k => ac82 t (by
          show Steps p.tables e below (T74.setTop (mkF m 269 #[.val (.int p1), .val (.int p2), .val (.int p3), .val (.int p4), .val (.long q5), .second, .val (.int cv), .val (.int av), .val (.int bv), .val (.int ob), .val (.int ra), .val (.int md), .val (.long qq), .second, .val (.ref b11), .val (.int (own_inr qq)), .val (.int (own_ua ra qq av)), .unset, .unset] [(.int ob)])) _
          refine XS.ifNo X74.here hx rfl (hb hby at_269) rfl ((if0 _ _).trans (feq hob0).1) ?_
          show Steps p.tables e below (T74.setTop (mkF m 272 #[.val (.int p1), .val (.int p2), .val (.int p3), .val (.int p4), .val (.long q5), .second, .val (.int cv), .val (.int av), .val (.int bv), .val (.int ob), .val (.int ra), .val (.int md), .val (.long qq), .second, .val (.ref b11), .val (.int (own_inr qq)), .val (.int (own_ua ra qq av)), .unset, .unset] [])) _
          refine XS.lload X74.here hx rfl (hb hby at_272) rfl ?_
          show Steps p.tables e below (T74.setTop (mkF m 274 #[.val (.int p1), .val (.int p2), .val (.int p3), .val (.int p4), .val (.long q5), .second, .val (.int cv), .val (.int av), .val (.int bv), .val (.int ob), .val (.int ra), .val (.int md), .val (.long qq), .second, .val (.ref b11), .val (.int (own_inr qq)), .val (.int (own_ua ra qq av)), .unset, .unset] [(.long qq)])) _
          refine XS.iload X74.here hx rfl (hb hby at_274) rfl ?_
          show Steps p.tables e below (T74.setTop (mkF m 276 #[.val (.int p1), .val (.int p2), .val (.int p3), .val (.int p4), .val (.long q5), .second, .val (.int cv), .val (.int av), .val (.int bv), .val (.int ob), .val (.int ra), .val (.int md), .val (.long qq), .second, .val (.ref b11), .val (.int (own_inr qq)), .val (.int (own_ua ra qq av)), .unset, .unset] [(.int bv), (.long qq)])) _
          refine XS.i2l X74.here hx rfl (hb hby at_276) rfl ?_
          show Steps p.tables e below (T74.setTop (mkF m 277 #[.val (.int p1), .val (.int p2), .val (.int p3), .val (.int p4), .val (.long q5), .second, .val (.int cv), .val (.int av), .val (.int bv), .val (.int ob), .val (.int ra), .val (.int md), .val (.long qq), .second, .val (.ref b11), .val (.int (own_inr qq)), .val (.int (own_ua ra qq av)), .unset, .unset] [(.long (bv.toInt64)), (.long qq)])) _
          refine XS.lcmp X74.here hx rfl (hb hby at_277) rfl ?_
          by_cases hqb : qq = (bv.toInt64)
          ·
            show Steps p.tables e below (T74.setTop (mkF m 278 #[.val (.int p1), .val (.int p2), .val (.int p3), .val (.int p4), .val (.long q5), .second, .val (.int cv), .val (.int av), .val (.int bv), .val (.int ob), .val (.int ra), .val (.int md), .val (.long qq), .second, .val (.ref b11), .val (.int (own_inr qq)), .val (.int (own_ua ra qq av)), .unset, .unset] [(.int (lcmpW qq (bv.toInt64)))])) _
            refine XS.ifNo X74.here hx rfl (hb hby at_278) rfl ((if0 _ _).trans (teq ((lw_eq _ _).mpr hqb)).2) ?_
            show Steps p.tables e below (T74.setTop (mkF m 281 #[.val (.int p1), .val (.int p2), .val (.int p3), .val (.int p4), .val (.long q5), .second, .val (.int cv), .val (.int av), .val (.int bv), .val (.int ob), .val (.int ra), .val (.int md), .val (.long qq), .second, .val (.ref b11), .val (.int (own_inr qq)), .val (.int (own_ua ra qq av)), .unset, .unset] [])) _
            refine XS.iconst X74.here hx rfl (hb hby at_281) ?_
            show Steps p.tables e below (T74.setTop (mkF m 282 #[.val (.int p1), .val (.int p2), .val (.int p3), .val (.int p4), .val (.long q5), .second, .val (.int cv), .val (.int av), .val (.int bv), .val (.int ob), .val (.int ra), .val (.int md), .val (.long qq), .second, .val (.ref b11), .val (.int (own_inr qq)), .val (.int (own_ua ra qq av)), .unset, .unset] [(.int (1 : Int32))])) _
            refine XS.goto X74.here hx rfl (pc0 := 282) (pc' := 286) rfl (hb hby at_282) (by decide) (by decide) ?_
            rw [show own_ub ob qq bv = 1 from (if_neg hob0).trans (if_pos hqb)] at k; exact k
          ·
            show Steps p.tables e below (T74.setTop (mkF m 278 #[.val (.int p1), .val (.int p2), .val (.int p3), .val (.int p4), .val (.long q5), .second, .val (.int cv), .val (.int av), .val (.int bv), .val (.int ob), .val (.int ra), .val (.int md), .val (.long qq), .second, .val (.ref b11), .val (.int (own_inr qq)), .val (.int (own_ua ra qq av)), .unset, .unset] [(.int (lcmpW qq (bv.toInt64)))])) _
            refine XS.ifYes X74.here hx rfl (pc0 := 278) (pc' := 285) rfl (hb hby at_278) rfl ((if0 _ _).trans (feq (mt (lw_eq _ _).mp hqb)).2) (by decide) (by decide) ?_
            show Steps p.tables e below (T74.setTop (mkF m 285 #[.val (.int p1), .val (.int p2), .val (.int p3), .val (.int p4), .val (.long q5), .second, .val (.int cv), .val (.int av), .val (.int bv), .val (.int ob), .val (.int ra), .val (.int md), .val (.long qq), .second, .val (.ref b11), .val (.int (own_inr qq)), .val (.int (own_ua ra qq av)), .unset, .unset] [])) _
            refine XS.iconst X74.here hx rfl (hb hby at_285) ?_
            rw [show own_ub ob qq bv = 0 from (if_neg hob0).trans (if_neg hqb)] at k; exact k)
      have ac84 : ∀ t, Steps p.tables e below (T74.setTop (mkF m 290 #[.val (.int p1), .val (.int p2), .val (.int p3), .val (.int p4), .val (.long q5), .second, .val (.int cv), .val (.int av), .val (.int bv), .val (.int ob), .val (.int ra), .val (.int md), .val (.long qq), .second, .val (.ref b11), .val (.int (own_inr qq)), .val (.int (own_ua ra qq av)), .val (.int (own_ub ob qq bv)), .unset] [(.int (own_inr qq))])) t → Steps p.tables e below (s₁.setTop (entryFrame m #[(.int p1), (.int p2), (.int p3), (.int p4), (.long q5)] maxLocals)) t := fun t k => ac83 t (by
          show Steps p.tables e below (T74.setTop (mkF m 286 #[.val (.int p1), .val (.int p2), .val (.int p3), .val (.int p4), .val (.long q5), .second, .val (.int cv), .val (.int av), .val (.int bv), .val (.int ob), .val (.int ra), .val (.int md), .val (.long qq), .second, .val (.ref b11), .val (.int (own_inr qq)), .val (.int (own_ua ra qq av)), .unset, .unset] [(.int (own_ub ob qq bv))])) _
          refine XS.istore X74.here hx rfl (hb hby at_286) rfl (l' := #[.val (.int p1), .val (.int p2), .val (.int p3), .val (.int p4), .val (.long q5), .second, .val (.int cv), .val (.int av), .val (.int bv), .val (.int ob), .val (.int ra), .val (.int md), .val (.long qq), .second, .val (.ref b11), .val (.int (own_inr qq)), .val (.int (own_ua ra qq av)), .val (.int (own_ub ob qq bv)), .unset]) rfl ?_
          show Steps p.tables e below (T74.setTop (mkF m 288 #[.val (.int p1), .val (.int p2), .val (.int p3), .val (.int p4), .val (.long q5), .second, .val (.int cv), .val (.int av), .val (.int bv), .val (.int ob), .val (.int ra), .val (.int md), .val (.long qq), .second, .val (.ref b11), .val (.int (own_inr qq)), .val (.int (own_ua ra qq av)), .val (.int (own_ub ob qq bv)), .unset] [])) _
          refine XS.iload X74.here hx rfl (hb hby at_288) rfl ?_
          exact k)
      have ac85 : ∀ t, Steps p.tables e below (T74.setTop (mkF m 308 #[.val (.int p1), .val (.int p2), .val (.int p3), .val (.int p4), .val (.long q5), .second, .val (.int cv), .val (.int av), .val (.int bv), .val (.int ob), .val (.int ra), .val (.int md), .val (.long qq), .second, .val (.ref b11), .val (.int (own_inr qq)), .val (.int (own_ua ra qq av)), .val (.int (own_ub ob qq bv)), .unset] [(.int (own_ex (own_inr qq) (own_ua ra qq av) (own_ub ob qq bv)))])) t → Steps p.tables e below (s₁.setTop (entryFrame m #[(.int p1), (.int p2), (.int p3), (.int p4), (.long q5)] maxLocals)) t := fun t k => ac84 t (by
          by_cases x1 : (own_inr qq) = (0 : Int32)
          ·
            show Steps p.tables e below (T74.setTop (mkF m 290 #[.val (.int p1), .val (.int p2), .val (.int p3), .val (.int p4), .val (.long q5), .second, .val (.int cv), .val (.int av), .val (.int bv), .val (.int ob), .val (.int ra), .val (.int md), .val (.long qq), .second, .val (.ref b11), .val (.int (own_inr qq)), .val (.int (own_ua ra qq av)), .val (.int (own_ub ob qq bv)), .unset] [(.int (own_inr qq))])) _
            refine XS.ifYes X74.here hx rfl (pc0 := 290) (pc' := 307) rfl (hb hby at_290) rfl ((if0 _ _).trans (teq x1).1) (by decide) (by decide) ?_
            show Steps p.tables e below (T74.setTop (mkF m 307 #[.val (.int p1), .val (.int p2), .val (.int p3), .val (.int p4), .val (.long q5), .second, .val (.int cv), .val (.int av), .val (.int bv), .val (.int ob), .val (.int ra), .val (.int md), .val (.long qq), .second, .val (.ref b11), .val (.int (own_inr qq)), .val (.int (own_ua ra qq av)), .val (.int (own_ub ob qq bv)), .unset] [])) _
            refine XS.iconst X74.here hx rfl (hb hby at_307) ?_
            rw [show (own_ex (own_inr qq) (own_ua ra qq av) (own_ub ob qq bv)) = 0 from if_pos x1] at k; exact k
          ·
            show Steps p.tables e below (T74.setTop (mkF m 290 #[.val (.int p1), .val (.int p2), .val (.int p3), .val (.int p4), .val (.long q5), .second, .val (.int cv), .val (.int av), .val (.int bv), .val (.int ob), .val (.int ra), .val (.int md), .val (.long qq), .second, .val (.ref b11), .val (.int (own_inr qq)), .val (.int (own_ua ra qq av)), .val (.int (own_ub ob qq bv)), .unset] [(.int (own_inr qq))])) _
            refine XS.ifNo X74.here hx rfl (hb hby at_290) rfl ((if0 _ _).trans (feq x1).1) ?_
            show Steps p.tables e below (T74.setTop (mkF m 293 #[.val (.int p1), .val (.int p2), .val (.int p3), .val (.int p4), .val (.long q5), .second, .val (.int cv), .val (.int av), .val (.int bv), .val (.int ob), .val (.int ra), .val (.int md), .val (.long qq), .second, .val (.ref b11), .val (.int (own_inr qq)), .val (.int (own_ua ra qq av)), .val (.int (own_ub ob qq bv)), .unset] [])) _
            refine XS.iload X74.here hx rfl (hb hby at_293) rfl ?_
            by_cases x2 : (own_ua ra qq av) = (0 : Int32)
            ·
              show Steps p.tables e below (T74.setTop (mkF m 295 #[.val (.int p1), .val (.int p2), .val (.int p3), .val (.int p4), .val (.long q5), .second, .val (.int cv), .val (.int av), .val (.int bv), .val (.int ob), .val (.int ra), .val (.int md), .val (.long qq), .second, .val (.ref b11), .val (.int (own_inr qq)), .val (.int (own_ua ra qq av)), .val (.int (own_ub ob qq bv)), .unset] [(.int (own_ua ra qq av))])) _
              refine XS.ifNo X74.here hx rfl (hb hby at_295) rfl ((if0 _ _).trans (teq x2).2) ?_
              show Steps p.tables e below (T74.setTop (mkF m 298 #[.val (.int p1), .val (.int p2), .val (.int p3), .val (.int p4), .val (.long q5), .second, .val (.int cv), .val (.int av), .val (.int bv), .val (.int ob), .val (.int ra), .val (.int md), .val (.long qq), .second, .val (.ref b11), .val (.int (own_inr qq)), .val (.int (own_ua ra qq av)), .val (.int (own_ub ob qq bv)), .unset] [])) _
              refine XS.iload X74.here hx rfl (hb hby at_298) rfl ?_
              by_cases x3 : (own_ub ob qq bv) = (0 : Int32)
              ·
                show Steps p.tables e below (T74.setTop (mkF m 300 #[.val (.int p1), .val (.int p2), .val (.int p3), .val (.int p4), .val (.long q5), .second, .val (.int cv), .val (.int av), .val (.int bv), .val (.int ob), .val (.int ra), .val (.int md), .val (.long qq), .second, .val (.ref b11), .val (.int (own_inr qq)), .val (.int (own_ua ra qq av)), .val (.int (own_ub ob qq bv)), .unset] [(.int (own_ub ob qq bv))])) _
                refine XS.ifNo X74.here hx rfl (hb hby at_300) rfl ((if0 _ _).trans (teq x3).2) ?_
                show Steps p.tables e below (T74.setTop (mkF m 303 #[.val (.int p1), .val (.int p2), .val (.int p3), .val (.int p4), .val (.long q5), .second, .val (.int cv), .val (.int av), .val (.int bv), .val (.int ob), .val (.int ra), .val (.int md), .val (.long qq), .second, .val (.ref b11), .val (.int (own_inr qq)), .val (.int (own_ua ra qq av)), .val (.int (own_ub ob qq bv)), .unset] [])) _
                refine XS.iconst X74.here hx rfl (hb hby at_303) ?_
                show Steps p.tables e below (T74.setTop (mkF m 304 #[.val (.int p1), .val (.int p2), .val (.int p3), .val (.int p4), .val (.long q5), .second, .val (.int cv), .val (.int av), .val (.int bv), .val (.int ob), .val (.int ra), .val (.int md), .val (.long qq), .second, .val (.ref b11), .val (.int (own_inr qq)), .val (.int (own_ua ra qq av)), .val (.int (own_ub ob qq bv)), .unset] [(.int (1 : Int32))])) _
                refine XS.goto X74.here hx rfl (pc0 := 304) (pc' := 308) rfl (hb hby at_304) (by decide) (by decide) ?_
                rw [show (own_ex (own_inr qq) (own_ua ra qq av) (own_ub ob qq bv)) = 1 from (if_neg x1).trans ((if_pos x2).trans (if_pos x3))] at k; exact k
              ·
                show Steps p.tables e below (T74.setTop (mkF m 300 #[.val (.int p1), .val (.int p2), .val (.int p3), .val (.int p4), .val (.long q5), .second, .val (.int cv), .val (.int av), .val (.int bv), .val (.int ob), .val (.int ra), .val (.int md), .val (.long qq), .second, .val (.ref b11), .val (.int (own_inr qq)), .val (.int (own_ua ra qq av)), .val (.int (own_ub ob qq bv)), .unset] [(.int (own_ub ob qq bv))])) _
                refine XS.ifYes X74.here hx rfl (pc0 := 300) (pc' := 307) rfl (hb hby at_300) rfl ((if0 _ _).trans (feq x3).2) (by decide) (by decide) ?_
                show Steps p.tables e below (T74.setTop (mkF m 307 #[.val (.int p1), .val (.int p2), .val (.int p3), .val (.int p4), .val (.long q5), .second, .val (.int cv), .val (.int av), .val (.int bv), .val (.int ob), .val (.int ra), .val (.int md), .val (.long qq), .second, .val (.ref b11), .val (.int (own_inr qq)), .val (.int (own_ua ra qq av)), .val (.int (own_ub ob qq bv)), .unset] [])) _
                refine XS.iconst X74.here hx rfl (hb hby at_307) ?_
                rw [show (own_ex (own_inr qq) (own_ua ra qq av) (own_ub ob qq bv)) = 0 from (if_neg x1).trans ((if_pos x2).trans (if_neg x3))] at k; exact k
            ·
              show Steps p.tables e below (T74.setTop (mkF m 295 #[.val (.int p1), .val (.int p2), .val (.int p3), .val (.int p4), .val (.long q5), .second, .val (.int cv), .val (.int av), .val (.int bv), .val (.int ob), .val (.int ra), .val (.int md), .val (.long qq), .second, .val (.ref b11), .val (.int (own_inr qq)), .val (.int (own_ua ra qq av)), .val (.int (own_ub ob qq bv)), .unset] [(.int (own_ua ra qq av))])) _
              refine XS.ifYes X74.here hx rfl (pc0 := 295) (pc' := 307) rfl (hb hby at_295) rfl ((if0 _ _).trans (feq x2).2) (by decide) (by decide) ?_
              show Steps p.tables e below (T74.setTop (mkF m 307 #[.val (.int p1), .val (.int p2), .val (.int p3), .val (.int p4), .val (.long q5), .second, .val (.int cv), .val (.int av), .val (.int bv), .val (.int ob), .val (.int ra), .val (.int md), .val (.long qq), .second, .val (.ref b11), .val (.int (own_inr qq)), .val (.int (own_ua ra qq av)), .val (.int (own_ub ob qq bv)), .unset] [])) _
              refine XS.iconst X74.here hx rfl (hb hby at_307) ?_
              rw [show (own_ex (own_inr qq) (own_ua ra qq av) (own_ub ob qq bv)) = 0 from (if_neg x1).trans (if_neg x2)] at k; exact k)
      have ac86 : ∀ t, Steps p.tables e below (T74.setTop (mkF m 314 #[.val (.int p1), .val (.int p2), .val (.int p3), .val (.int p4), .val (.long q5), .second, .val (.int cv), .val (.int av), .val (.int bv), .val (.int ob), .val (.int ra), .val (.int md), .val (.long qq), .second, .val (.ref b11), .val (.int (own_inr qq)), .val (.int (own_ua ra qq av)), .val (.int (own_ub ob qq bv)), .val (.int (own_ex (own_inr qq) (own_ua ra qq av) (own_ub ob qq bv)))] [(.long qq), (.ref b11)])) t → Steps p.tables e below (s₁.setTop (entryFrame m #[(.int p1), (.int p2), (.int p3), (.int p4), (.long q5)] maxLocals)) t := fun t k => ac85 t (by
          show Steps p.tables e below (T74.setTop (mkF m 308 #[.val (.int p1), .val (.int p2), .val (.int p3), .val (.int p4), .val (.long q5), .second, .val (.int cv), .val (.int av), .val (.int bv), .val (.int ob), .val (.int ra), .val (.int md), .val (.long qq), .second, .val (.ref b11), .val (.int (own_inr qq)), .val (.int (own_ua ra qq av)), .val (.int (own_ub ob qq bv)), .unset] [(.int (own_ex (own_inr qq) (own_ua ra qq av) (own_ub ob qq bv)))])) _
          refine XS.istore X74.here hx rfl (hb hby at_308) rfl (l' := #[.val (.int p1), .val (.int p2), .val (.int p3), .val (.int p4), .val (.long q5), .second, .val (.int cv), .val (.int av), .val (.int bv), .val (.int ob), .val (.int ra), .val (.int md), .val (.long qq), .second, .val (.ref b11), .val (.int (own_inr qq)), .val (.int (own_ua ra qq av)), .val (.int (own_ub ob qq bv)), .val (.int (own_ex (own_inr qq) (own_ua ra qq av) (own_ub ob qq bv)))]) rfl ?_
          show Steps p.tables e below (T74.setTop (mkF m 310 #[.val (.int p1), .val (.int p2), .val (.int p3), .val (.int p4), .val (.long q5), .second, .val (.int cv), .val (.int av), .val (.int bv), .val (.int ob), .val (.int ra), .val (.int md), .val (.long qq), .second, .val (.ref b11), .val (.int (own_inr qq)), .val (.int (own_ua ra qq av)), .val (.int (own_ub ob qq bv)), .val (.int (own_ex (own_inr qq) (own_ua ra qq av) (own_ub ob qq bv)))] [])) _
          refine XS.aload X74.here hx rfl (hb hby at_310) rfl rfl ?_
          show Steps p.tables e below (T74.setTop (mkF m 312 #[.val (.int p1), .val (.int p2), .val (.int p3), .val (.int p4), .val (.long q5), .second, .val (.int cv), .val (.int av), .val (.int bv), .val (.int ob), .val (.int ra), .val (.int md), .val (.long qq), .second, .val (.ref b11), .val (.int (own_inr qq)), .val (.int (own_ua ra qq av)), .val (.int (own_ub ob qq bv)), .val (.int (own_ex (own_inr qq) (own_ua ra qq av) (own_ub ob qq bv)))] [(.ref b11)])) _
          refine XS.lload X74.here hx rfl (hb hby at_312) rfl ?_
          exact k)
      obtain ⟨cq87, kq87, q87a, q87b, q87c⟩ := isOf hZ rfl HB74.1
      obtain ⟨_, _, ⟨T87, L87, k87, n87⟩, -, X87, ⟨Lc87, hQ87, l87, y87, z87⟩, st87⟩ := X74.virtualBack hx (y := (⟨"com/example/twinbase/twinbase/CellSpace", "isFree", "(J)Z"⟩ : MethodName)) (z := (⟨"com/example/twinbase/twinbase/CellSpace", "isFree", "(J)Z"⟩ : MethodName)) hown (mvT hZ (hw _ (List.mem_of_getElem? (i := 75) rfl))) (mvT hZ (hw _ (List.mem_of_getElem? (i := 76) rfl))) (notFace_of_selects (args := #[]) (mvT hZ (hw _ (List.mem_of_getElem? (i := 78) rfl)))) (mvT hZ (hw _ (List.mem_of_getElem? (i := 78) rfl))) (mvT hZ (hw _ (List.mem_of_getElem? (i := 77) rfl))) (by decide) (backOf (W := 0) (rm12 l Z a0 hw [] b11 qq _ _ bC56 bU56 bF56 bR15 ln56 _ (fun i => if i = avn / 64 then (fun i => if i = bvn / 64 then (fun i => if i = avn / 64 then (fun _ => (0 : Int64)) i ||| own_sh av else (fun _ => (0 : Int64)) i) i ||| own_sh bv else (fun i => if i = avn / 64 then (fun _ => (0 : Int64)) i ||| own_sh av else (fun _ => (0 : Int64)) i) i) i &&& (own_sh av ^^^ (-1)) else (fun i => if i = bvn / 64 then (fun i => if i = avn / 64 then (fun _ => (0 : Int64)) i ||| own_sh av else (fun _ => (0 : Int64)) i) i ||| own_sh bv else (fun i => if i = avn / 64 then (fun _ => (0 : Int64)) i ||| own_sh av else (fun _ => (0 : Int64)) i) i) i) _ _ T74.heap n0 Z74 HB74) hZ (hw _ (List.mem_of_getElem? (i := 79) rfl)) (hw _ (List.mem_of_getElem? (i := 2) rfl)) (by decide) (by decide)) q87a q87c (g := (mkF m 314 #[.val (.int p1), .val (.int p2), .val (.int p3), .val (.int p4), .val (.long q5), .second, .val (.int cv), .val (.int av), .val (.int bv), .val (.int ob), .val (.int ra), .val (.int md), .val (.long qq), .second, .val (.ref b11), .val (.int (own_inr qq)), .val (.int (own_ua ra qq av)), .val (.int (own_ub ob qq bv)), .val (.int (own_ex (own_inr qq) (own_ua ra qq av) (own_ub ob qq bv)))] [(.long qq), (.ref b11)])) rfl (by rw [hml]; rfl) (Steps.refl _) (argsL := [(.long qq)]) (rest := []) (lenOf pd_9 rfl) rfl (by show 2 * 0 + _ ≤ _; exact Nat.le_of_eq rfl) (hb hby at_314) (fun _ _ => ⟨rfl, rfl, (by decide : 14 + 0 ≤ _), (by decide : 3161 + 0 ≤ _)⟩)
      dsimp only [Pt.U, Pt.locs, Pt.cells, Pt.slots] at X87 l87 y87 z87 st87 hQ87
      subst l87 y87 z87
      obtain ⟨rfl, N87q, Qe87⟩ := hQ87
      have N87 := Fr.app N74 N87q
      have ac88 : ∀ t, Steps p.tables e below (T87.setTop (mkF m 317 #[.val (.int p1), .val (.int p2), .val (.int p3), .val (.int p4), .val (.long q5), .second, .val (.int cv), .val (.int av), .val (.int bv), .val (.int ob), .val (.int ra), .val (.int md), .val (.long qq), .second, .val (.ref b11), .val (.int (own_inr qq)), .val (.int (own_ua ra qq av)), .val (.int (own_ub ob qq bv)), .val (.int (own_ex (own_inr qq) (own_ua ra qq av) (own_ub ob qq bv)))] [(.int (own_fr qq ln56 (fun i => if i = avn / 64 then (fun i => if i = bvn / 64 then (fun i => if i = avn / 64 then (fun _ => (0 : Int64)) i ||| own_sh av else (fun _ => (0 : Int64)) i) i ||| own_sh bv else (fun i => if i = avn / 64 then (fun _ => (0 : Int64)) i ||| own_sh av else (fun _ => (0 : Int64)) i) i) i &&& (own_sh av ^^^ (-1)) else (fun i => if i = bvn / 64 then (fun i => if i = avn / 64 then (fun _ => (0 : Int64)) i ||| own_sh av else (fun _ => (0 : Int64)) i) i ||| own_sh bv else (fun i => if i = avn / 64 then (fun _ => (0 : Int64)) i ||| own_sh av else (fun _ => (0 : Int64)) i) i) i)))])) t → Steps p.tables e below (s₁.setTop (entryFrame m #[(.int p1), (.int p2), (.int p3), (.int p4), (.long q5)] maxLocals)) t := fun t k => ac86 t (st87.trans k)
      have hlast : own_fr qq ln56 (fun i => if i = avn / 64 then (fun i => if i = bvn / 64 then (fun i => if i = avn / 64 then (fun _ => (0 : Int64)) i ||| own_sh av else (fun _ => (0 : Int64)) i) i ||| own_sh bv else (fun i => if i = avn / 64 then (fun _ => (0 : Int64)) i ||| own_sh av else (fun _ => (0 : Int64)) i) i) i &&& (own_sh av ^^^ (-1)) else (fun i => if i = bvn / 64 then (fun i => if i = avn / 64 then (fun _ => (0 : Int64)) i ||| own_sh av else (fun _ => (0 : Int64)) i) i ||| own_sh bv else (fun i => if i = avn / 64 then (fun _ => (0 : Int64)) i ||| own_sh av else (fun _ => (0 : Int64)) i) i) i) = (own_ex (own_inr qq) (own_ua ra qq av) (own_ub ob qq bv)) := own_last hL2 havn hbvn hA2 hB2 huG (fun k => by simp [hra, hob0]; omega)
      have ac89 : ∀ t, Steps p.tables e below (T87.setTop (mkF m 327 #[.val (.int p1), .val (.int p2), .val (.int p3), .val (.int p4), .val (.long q5), .second, .val (.int cv), .val (.int av), .val (.int bv), .val (.int ob), .val (.int ra), .val (.int md), .val (.long qq), .second, .val (.ref b11), .val (.int (own_inr qq)), .val (.int (own_ua ra qq av)), .val (.int (own_ub ob qq bv)), .val (.int (own_ex (own_inr qq) (own_ua ra qq av) (own_ub ob qq bv)))] [(.int (1 : Int32))])) t → Steps p.tables e below (s₁.setTop (entryFrame m #[(.int p1), (.int p2), (.int p3), (.int p4), (.long q5)] maxLocals)) t := fun t k => ac88 t (by
          show Steps p.tables e below (T87.setTop (mkF m 317 #[.val (.int p1), .val (.int p2), .val (.int p3), .val (.int p4), .val (.long q5), .second, .val (.int cv), .val (.int av), .val (.int bv), .val (.int ob), .val (.int ra), .val (.int md), .val (.long qq), .second, .val (.ref b11), .val (.int (own_inr qq)), .val (.int (own_ua ra qq av)), .val (.int (own_ub ob qq bv)), .val (.int (own_ex (own_inr qq) (own_ua ra qq av) (own_ub ob qq bv)))] [(.int (own_fr qq ln56 (fun i => if i = avn / 64 then (fun i => if i = bvn / 64 then (fun i => if i = avn / 64 then (fun _ => (0 : Int64)) i ||| own_sh av else (fun _ => (0 : Int64)) i) i ||| own_sh bv else (fun i => if i = avn / 64 then (fun _ => (0 : Int64)) i ||| own_sh av else (fun _ => (0 : Int64)) i) i) i &&& (own_sh av ^^^ (-1)) else (fun i => if i = bvn / 64 then (fun i => if i = avn / 64 then (fun _ => (0 : Int64)) i ||| own_sh av else (fun _ => (0 : Int64)) i) i ||| own_sh bv else (fun i => if i = avn / 64 then (fun _ => (0 : Int64)) i ||| own_sh av else (fun _ => (0 : Int64)) i) i) i)))])) _
          refine XS.iload X87.here hx rfl (hb hby at_317) rfl ?_
          show Steps p.tables e below (T87.setTop (mkF m 319 #[.val (.int p1), .val (.int p2), .val (.int p3), .val (.int p4), .val (.long q5), .second, .val (.int cv), .val (.int av), .val (.int bv), .val (.int ob), .val (.int ra), .val (.int md), .val (.long qq), .second, .val (.ref b11), .val (.int (own_inr qq)), .val (.int (own_ua ra qq av)), .val (.int (own_ub ob qq bv)), .val (.int (own_ex (own_inr qq) (own_ua ra qq av) (own_ub ob qq bv)))] [(.int (own_ex (own_inr qq) (own_ua ra qq av) (own_ub ob qq bv))), (.int (own_fr qq ln56 (fun i => if i = avn / 64 then (fun i => if i = bvn / 64 then (fun i => if i = avn / 64 then (fun _ => (0 : Int64)) i ||| own_sh av else (fun _ => (0 : Int64)) i) i ||| own_sh bv else (fun i => if i = avn / 64 then (fun _ => (0 : Int64)) i ||| own_sh av else (fun _ => (0 : Int64)) i) i) i &&& (own_sh av ^^^ (-1)) else (fun i => if i = bvn / 64 then (fun i => if i = avn / 64 then (fun _ => (0 : Int64)) i ||| own_sh av else (fun _ => (0 : Int64)) i) i ||| own_sh bv else (fun i => if i = avn / 64 then (fun _ => (0 : Int64)) i ||| own_sh av else (fun _ => (0 : Int64)) i) i) i)))])) _
          refine XS.icmpNo X87.here hx rfl (hb hby at_319) rfl (teq hlast).2 ?_
          show Steps p.tables e below (T87.setTop (mkF m 322 #[.val (.int p1), .val (.int p2), .val (.int p3), .val (.int p4), .val (.long q5), .second, .val (.int cv), .val (.int av), .val (.int bv), .val (.int ob), .val (.int ra), .val (.int md), .val (.long qq), .second, .val (.ref b11), .val (.int (own_inr qq)), .val (.int (own_ua ra qq av)), .val (.int (own_ub ob qq bv)), .val (.int (own_ex (own_inr qq) (own_ua ra qq av) (own_ub ob qq bv)))] [])) _
          refine XS.iconst X87.here hx rfl (hb hby at_322) ?_
          show Steps p.tables e below (T87.setTop (mkF m 323 #[.val (.int p1), .val (.int p2), .val (.int p3), .val (.int p4), .val (.long q5), .second, .val (.int cv), .val (.int av), .val (.int bv), .val (.int ob), .val (.int ra), .val (.int md), .val (.long qq), .second, .val (.ref b11), .val (.int (own_inr qq)), .val (.int (own_ua ra qq av)), .val (.int (own_ub ob qq bv)), .val (.int (own_ex (own_inr qq) (own_ua ra qq av) (own_ub ob qq bv)))] [(.int (1 : Int32))])) _
          refine XS.goto X87.here hx rfl (pc0 := 323) (pc' := 327) rfl (hb hby at_323) (by decide) (by decide) ?_
          exact k)
      obtain ⟨fs, hr, hrun, hended, hW, hsame⟩ := X87.leave (v := some (.int (1 : Int32))) (fun h => by rw [Bd.returns] at h; cases h) (BodyLoose.notSynchronized Bd)
      refine ⟨_, _, ac89 _ ?_, hrun, hended, _, _, rfl, ?_, ⟨_, rfl⟩, hW, hsame.mono (by decide) (by decide)⟩
      · show Steps p.tables e below (T87.setTop (mkF m 327 #[.val (.int p1), .val (.int p2), .val (.int p3), .val (.int p4), .val (.long q5), .second, .val (.int cv), .val (.int av), .val (.int bv), .val (.int ob), .val (.int ra), .val (.int md), .val (.long qq), .second, .val (.ref b11), .val (.int (own_inr qq)), .val (.int (own_ua ra qq av)), .val (.int (own_ub ob qq bv)), .val (.int (own_ex (own_inr qq) (own_ua ra qq av) (own_ub ob qq bv)))] [(.int (1 : Int32))])) _
        exact retN X87 hx (t := .boolean) Bd.returns (by simp) (hb hby at_327) hr
      · show Q0 Z p1 p2 p3 p4 q5 frv h0 n0 _ T87.heap _
        rw [Qe87]
        exact ⟨rfl, N87⟩
theorem own_frl {args : Array Value} {s : State} {t : Term} {z : Int64} (h : (Cond.eq t (.long z)).value args s none s [] = some true) : t.eval args s none [] s = some (.long z) := by
  simp only [Cond.value, Term.eval] at h
  cases e : t.eval args s none [] s with
  | none => simp [e] at h
  | some v => cases v <;> simp_all
set_option maxRecDepth 65536 in
set_option maxHeartbeats 40000000 in
theorem comes_1 {Post : Tables → Env → Array Value → State → Outcome → State → Prop} (hpost : ∀ tb e args s v u, (limb_1_1.after args s (.returned v) u = true ∧ limb_1_2.after args s (.returned v) u = true ∧ True) → FrameEnd s (.returned v) u (Jvm.fieldLocs frame_1_writes args s ++ Jvm.arrayLocs frame_1_arrays args s ++ Jvm.staticLocs frame_1_statics s) 40 3776 → Post tb e args s (.returned v) u) :
    ArmFor flags0 classFile x code maxLocals ret World_1 tables_1 room_1 Calls_1 rest_1 Pre_1 Post := by
  intro l hfl _ _ p e ha hc hk s m args below hf hA hF happ hP
  obtain ⟨hcalls, hrest, hpre⟩ := hP
  obtain ⟨-, -, -, hnamed, -, -, -, hat⟩ := (Spec.applies_iff hf).mp happ
  obtain ⟨hg, hn⟩ := and_e (Cond.before_iff.mp (show (Jvm.Cond.and given_1 narrow_1).before args s = true from hpre))
  obtain ⟨hcnt, hk0⟩ := and_e hg
  obtain ⟨g0, hk1⟩ := and_e hk0
  obtain ⟨g1, hk2⟩ := and_e hk1
  obtain ⟨g2, hk3⟩ := and_e hk2
  obtain ⟨g3, hk4⟩ := and_e hk3
  have g4 := hk4
  obtain ⟨w0, w1, w2, w3, w4, rfl⟩ : ∃ w0 w1 w2 w3 w4 : Value, args = #[w0, w1, w2, w3, w4] := by
    have hs : args.size = 5 := by simpa [Cond.value, given_1] using hcnt
    obtain ⟨L⟩ := args
    match L, hs with
    | [w0, w1, w2, w3, w4], _ => exact ⟨w0, w1, w2, w3, w4, rfl⟩
  have hw := fun d (hd : d ∈ tables_1) => atoms_spec (ws := Jvm.Cond.code x code maxLocals ret :: tables_1) hat d (List.mem_cons_of_mem _ hd)
  have hfit : Fit s := fun {y c} hc i hi => by
    obtain ⟨ha, rfl⟩ := Array.getElem?_eq_some_iff.mp hc
    have q := List.all_eq_true.mp ((Array.all_eq_true_iff_forall_mem.mp hF) _ (Array.getElem_mem ha)) i (List.mem_range.mpr hi)
    simpa [Array.getElem?_eq_getElem hi] using q
  obtain ⟨i0, ei0⟩ := is_v g0
  obtain rfl : w0 = (.int i0) := Option.some.inj ei0
  obtain ⟨i1, ei1⟩ := is_v g1
  obtain rfl : w1 = (.int i1) := Option.some.inj ei1
  obtain ⟨i2, ei2⟩ := is_v g2
  obtain rfl : w2 = (.int i2) := Option.some.inj ei2
  obtain ⟨i3, ei3⟩ := is_v g3
  obtain rfl : w3 = (.int i3) := Option.some.inj ei3
  obtain ⟨i4, ei4⟩ := isL_v g4
  obtain rfl : w4 = (.long i4) := Option.some.inj ei4
  have hfre := hn
  obtain ⟨frv, Sf⟩ : ∃ f : Int64, Sta s s.heap "com/example/twinbase/twinbase/DoubleArray" "FREE" "J" (.long f) := ⟨_, Sta.start (own_frl hfre) (Or.inr ⟨(hw _ (List.mem_of_getElem? (i := 47) rfl)), (hw _ (List.mem_of_getElem? (i := 48) rfl))⟩)⟩
  obtain ⟨n, o, h1, h2, h3, _, L, rfl, ⟨rfl, N⟩, hq⟩ := rm0 l s _ hw tables_1 i0 i1 i2 i3 i4 frv s.heap s.heap.size (Nat.le_refl _) Sf p e ha hc hk s m _ below hf ((Spec.applies_iff_loose hf).mp happ).1 ⟨rfl, State.Warmed39.refl s, rfl⟩ trivial
  refine ⟨n, _, h1, h2, h3, hpost _ _ _ _ _ _ ⟨Cond.after_iff.mpr rfl, Cond.after_iff.mpr (eq_i res_at (Term.int_eval (1)) rfl), trivial⟩ ⟨hq.1, hq.2.1, (hq.2.2.sift fun y hy => Or.inr (N y hy)).mono (by decide) (by decide)⟩⟩
theorem main_1_1 : Claimed_1_1 := comes_1 fun _ _ _ _ _ _ h hF => ⟨h.1, hF⟩
theorem main_1_2 : Claimed_1_2 := comes_1 fun _ _ _ _ _ _ h hF => ⟨h.2.1, hF⟩
end Jvm.Pilot.@@N@@
namespace Jvm.Pilot.@@N@@
open Jvm Jvm.ClassFile Sem Op Lib Jvm.Free Jvm.Stand Jvm.Pilot.@@N@@.Jvm.D
/-! MADE BY PROGRAM (witnessworld.py) out of the Statement's table words and the real class files: 21 classes; the members and pool entries that the words name. The judged class is class 1, her method 1. -/
namespace start1
open Jvm.ClassFile
def u (s : String) : CpInfo := .utf8 (stringToUtf16 s)
/-- a pool by its gaps: so many unusable entries, then the entry; so many at the end -/
def gap : Nat → List CpInfo → List CpInfo
  | 0, r => r
  | n + 1, r => .unusable :: gap n r
def poolList (es : List (Nat × CpInfo)) (last : Nat) : List CpInfo := es.foldr (fun e r => gap e.1 (e.2 :: r)) (gap last [])
def pool (es : List (Nat × CpInfo)) (last : Nat) : Array CpInfo := ⟨poolList es last⟩
def fileOf (pool : Array CpInfo) (this : Nat) (attrs : Array Attribute := #[]) (ms : Array MethodInfo := #[]) (fl : Nat := 33) (sup : Nat := 0) (ifs : Array Nat := #[]) (fds : Array FieldInfo := #[]) : ClassFile where
  minorVersion := 0
  majorVersion := 65
  constantPool := pool
  accessFlags := fl
  thisClass := this
  superClass := sup
  interfaces := ifs
  fields := fds
  methods := ms
  attributes := attrs
def plain (name : String) (sup : Option ClassId) : Class where
  name := name
  kind := .ordinary
  loader := none
  accessFlags := 33
  super := sup
  interfaces := #[]
  cf := none
  fields := #[]
  methods := #[]
  instanceTypes := #[]
  staticTypes := #[]
  resolved := #[]
  callSites := []
  init := .initialized
  statics := none
  mirror := none

def pool0 : Array CpInfo := pool [(5, u "<init>"), (0, u "()V"), (1, .class_ 10), (1, u "java/lang/Object"), (85, u "clone"), (0, u "()Ljava/lang/Object;")] 26

def k0c0 : Code := { maxStack := 0, maxLocals := 1, code := object_method_1_code, exceptionTable := #[], attributes := #[] }
def k0m0 : Method := { name := "<init>", desc := "()V", sig := { parameters := [], returnType := none }, accessFlags := 1, code := some k0c0 }
def k0m1 : Method := { name := "clone", desc := "()Ljava/lang/Object;", sig := { parameters := [], returnType := some (.object "java/lang/Object") }, accessFlags := 260, code := none }
/-- java/lang/Object -/
def k0 : Class := { plain "java/lang/Object" none with
  accessFlags := 33
  interfaces := #[]
  cf := some (fileOf pool0 8 #[] #[{ accessFlags := 1, nameIndex := 5, descriptorIndex := 6, attributes := #[] }, { accessFlags := 260, nameIndex := 96, descriptorIndex := 97, attributes := #[] }] 33 0 #[] #[])
  fields := #[]
  methods := #[k0m0, k0m1]
  instanceTypes := #[]
  staticTypes := #[]
  resolved := Array.replicate 124 none
  statics := none }

def pool1 : Array CpInfo := pool [(2, .class_ 4), (1, u "java/lang/Object"), (0, u "<init>"), (0, u "()V"), (0, .long 1023), (1, .long 4), (3, .long 2147483644), (1, .long 7), (1, .long 4294967296), (3, .long 9223372036854775808), (1, .class_ 24), (0, u "com/example/twinbase/twinbase/CellSpace"), (0, .methodref 23 26), (0, .nameAndType 5 27), (0, u "(I)V"), (0, .methodref 23 29), (0, .nameAndType 30 27), (0, u "occupy"), (0, .methodref 23 32), (0, .nameAndType 33 27), (0, u "release"), (2, .long 2147483646), (1, .methodref 23 39), (0, .nameAndType 40 41), (0, u "isFree"), (0, u "(J)Z"), (0, .class_ 43), (0, u "com/example/twinbase/twinbase/CellSpaceIsFreePinLaw"), (2, u "law"), (0, u "(IIIIJ)Z")] 3

def k1m0 : Method := { name := "<init>", desc := "()V", sig := { parameters := [], returnType := none }, accessFlags := 1, code := none }
def k1c1 : Code := { maxStack := 6, maxLocals := 19, code := code, exceptionTable := #[], attributes := #[] }
def k1m1 : Method := { name := "law", desc := "(IIIIJ)Z", sig := { parameters := [.int, .int, .int, .int, .long], returnType := some .boolean }, accessFlags := 9, code := some k1c1 }
/-- com/example/twinbase/twinbase/CellSpaceIsFreePinLaw -/
def k1 : Class := { plain "com/example/twinbase/twinbase/CellSpaceIsFreePinLaw" (some 0) with
  accessFlags := 49
  interfaces := #[]
  cf := some (fileOf pool1 42 #[] #[{ accessFlags := 1, nameIndex := 5, descriptorIndex := 6, attributes := #[] }, { accessFlags := 9, nameIndex := 46, descriptorIndex := 47, attributes := #[] }] 49 2 #[] #[])
  fields := #[]
  methods := #[k1m0, k1m1]
  instanceTypes := #[]
  staticTypes := #[]
  resolved := Array.replicate 51 none
  statics := none }

def pool2 : Array CpInfo := pool [(1, .methodref 2 3), (0, .class_ 4), (0, .nameAndType 5 6), (0, u "java/lang/Object"), (0, u "<init>"), (0, u "()V"), (0, .fieldref 8 9), (0, .class_ 10), (0, .nameAndType 11 12), (0, u "com/example/twinbase/twinbase/CellSpace"), (0, u "cells"), (0, u "[J"), (0, .fieldref 8 14), (0, .nameAndType 15 12), (0, u "used"), (0, .fieldref 8 17), (0, .nameAndType 18 12), (0, u "full"), (0, .fieldref 8 20), (0, .nameAndType 21 22), (0, u "resume"), (0, u "[I"), (0, .methodref 8 24), (0, .nameAndType 25 26), (0, u "grow"), (0, u "(I)V"), (0, .methodref 28 29), (0, .class_ 30), (0, .nameAndType 31 32), (0, u "java/lang/Math"), (0, u "max"), (0, u "(II)I"), (6, .class_ 40), (0, u "com/example/twinbase/twinbase/DoubleArray"), (2, u "occupy"), (3, u "(J)I"), (9, .long 2147483646), (1, .fieldref 8 60), (0, .nameAndType 61 62), (0, u "size"), (0, u "I"), (2, u "isFree"), (0, u "(J)Z"), (0, .methodref 68 69), (0, .class_ 70), (0, .nameAndType 71 72), (0, u "java/util/Arrays"), (0, u "copyOf"), (0, u "([JI)[J"), (0, .fieldref 8 74), (0, .nameAndType 75 62), (0, u "lowestFree"), (0, .methodref 8 77), (0, .nameAndType 78 79), (0, u "firstFree"), (0, u "(J)J"), (0, .long 18446744073709551615), (4, .methodref 86 87), (0, .class_ 88), (0, .nameAndType 89 47), (0, u "java/lang/Long"), (0, u "numberOfTrailingZeros"), (6, .fieldref 39 97), (0, .nameAndType 98 99), (0, u "FREE"), (0, u "J"), (0, .methodref 28 101), (0, .nameAndType 102 32), (0, u "min"), (0, .integer 2147483646), (0, .long 2), (1, .methodref 28 107), (0, .nameAndType 31 108), (0, u "(JJ)J"), (0, .methodref 28 110), (0, .nameAndType 102 108), (0, .methodref 68 112), (0, .nameAndType 113 114), (0, u "fill"), (0, u "([JIIJ)V"), (7, u "RESUMING_WIDTH"), (19, u "release")] 2

def k2c0 : Code := { maxStack := 2, maxLocals := 2, code := prog_2_method_1_code, exceptionTable := #[], attributes := #[] }
def k2m0 : Method := { name := "<init>", desc := "(I)V", sig := { parameters := [.int], returnType := none }, accessFlags := 0, code := some k2c0 }
def k2c1 : Code := { maxStack := 6, maxLocals := 3, code := prog_2_method_8_code, exceptionTable := #[], attributes := #[] }
def k2m1 : Method := { name := "isFree", desc := "(J)Z", sig := { parameters := [.long], returnType := some .boolean }, accessFlags := 0, code := some k2c1 }
def k2c2 : Code := { maxStack := 7, maxLocals := 3, code := prog_2_method_11_code, exceptionTable := #[], attributes := #[] }
def k2m2 : Method := { name := "occupy", desc := "(I)V", sig := { parameters := [.int], returnType := none }, accessFlags := 0, code := some k2c2 }
def k2c3 : Code := { maxStack := 8, maxLocals := 4, code := prog_2_method_12_code, exceptionTable := #[], attributes := #[] }
def k2m3 : Method := { name := "release", desc := "(I)V", sig := { parameters := [.int], returnType := none }, accessFlags := 0, code := some k2c3 }
def k2c4 : Code := { maxStack := 6, maxLocals := 10, code := prog_2_method_13_code, exceptionTable := #[], attributes := #[] }
def k2m4 : Method := { name := "firstFree", desc := "(J)J", sig := { parameters := [.long], returnType := some .long }, accessFlags := 2, code := some k2c4 }
def k2c5 : Code := { maxStack := 8, maxLocals := 4, code := prog_2_method_15_code, exceptionTable := #[], attributes := #[] }
def k2m5 : Method := { name := "grow", desc := "(I)V", sig := { parameters := [.int], returnType := none }, accessFlags := 2, code := some k2c5 }
/-- com/example/twinbase/twinbase/CellSpace -/
def k2 : Class := { plain "com/example/twinbase/twinbase/CellSpace" (some 0) with
  accessFlags := 48
  interfaces := #[]
  cf := some (fileOf pool2 8 #[] #[{ accessFlags := 0, nameIndex := 5, descriptorIndex := 26, attributes := #[] }, { accessFlags := 0, nameIndex := 65, descriptorIndex := 66, attributes := #[] }, { accessFlags := 0, nameIndex := 43, descriptorIndex := 26, attributes := #[] }, { accessFlags := 0, nameIndex := 142, descriptorIndex := 26, attributes := #[] }, { accessFlags := 2, nameIndex := 78, descriptorIndex := 79, attributes := #[] }, { accessFlags := 2, nameIndex := 25, descriptorIndex := 26, attributes := #[] }] 48 2 #[] #[{ accessFlags := 26, nameIndex := 122, descriptorIndex := 62, attributes := #[] }, { accessFlags := 2, nameIndex := 11, descriptorIndex := 12, attributes := #[] }, { accessFlags := 2, nameIndex := 15, descriptorIndex := 12, attributes := #[] }, { accessFlags := 2, nameIndex := 18, descriptorIndex := 12, attributes := #[] }, { accessFlags := 2, nameIndex := 75, descriptorIndex := 62, attributes := #[] }, { accessFlags := 2, nameIndex := 61, descriptorIndex := 62, attributes := #[] }, { accessFlags := 18, nameIndex := 21, descriptorIndex := 22, attributes := #[] }])
  fields := #[{ name := "RESUMING_WIDTH", type := .int, accessFlags := 26, slot := 0, constantValue := 0 }, { name := "cells", type := (.array .long), accessFlags := 2, slot := 0, constantValue := 0 }, { name := "used", type := (.array .long), accessFlags := 2, slot := 1, constantValue := 0 }, { name := "full", type := (.array .long), accessFlags := 2, slot := 2, constantValue := 0 }, { name := "lowestFree", type := .int, accessFlags := 2, slot := 3, constantValue := 0 }, { name := "size", type := .int, accessFlags := 2, slot := 4, constantValue := 0 }, { name := "resume", type := (.array .int), accessFlags := 18, slot := 5, constantValue := 0 }]
  methods := #[k2m0, k2m1, k2m2, k2m3, k2m4, k2m5]
  instanceTypes := #[(.array .long), (.array .long), (.array .long), .int, .int, (.array .int)]
  staticTypes := #[.int]
  resolved := Array.replicate 145 none
  statics := none }

def pool3 : Array CpInfo := pool [(1, .class_ 2), (0, u "java/lang/Math"), (1, .class_ 6), (1, u "java/lang/Object"), (0, u "<init>"), (0, u "()V"), (89, .class_ 100), (1, u "java/lang/Math$RandomNumberGeneratorHolder"), (20, u "(JJ)J"), (50, u "negativeZeroFloatBits"), (0, u "J"), (2, u "negativeZeroDoubleBits"), (21, u "max"), (2, u "min"), (43, u "$assertionsDisabled"), (0, u "Z"), (88, u "(II)I"), (2, u "twoToTheDoubleScaleDown"), (0, u "D"), (4, u "twoToTheDoubleScaleUp"), (9, u "E"), (3, u "PI"), (2, u "TAU"), (2, u "DEGREES_TO_RADIANS"), (0, u "RADIANS_TO_DEGREES")] 94

def k3m0 : Method := { name := "<init>", desc := "()V", sig := { parameters := [], returnType := none }, accessFlags := 2, code := none }
def k3c1 : Code := { maxStack := 2, maxLocals := 2, code := jdk_29_method_65_code, exceptionTable := #[], attributes := #[] }
def k3m1 : Method := { name := "max", desc := "(II)I", sig := { parameters := [.int, .int], returnType := some .int }, accessFlags := 9, code := some k3c1 }
def k3c2 : Code := { maxStack := 4, maxLocals := 4, code := jdk_29_method_66_code, exceptionTable := #[], attributes := #[] }
def k3m2 : Method := { name := "max", desc := "(JJ)J", sig := { parameters := [.long, .long], returnType := some .long }, accessFlags := 9, code := some k3c2 }
def k3c3 : Code := { maxStack := 2, maxLocals := 2, code := jdk_29_method_69_code, exceptionTable := #[], attributes := #[] }
def k3m3 : Method := { name := "min", desc := "(II)I", sig := { parameters := [.int, .int], returnType := some .int }, accessFlags := 9, code := some k3c3 }
def k3c4 : Code := { maxStack := 4, maxLocals := 4, code := jdk_29_method_70_code, exceptionTable := #[], attributes := #[] }
def k3m4 : Method := { name := "min", desc := "(JJ)J", sig := { parameters := [.long, .long], returnType := some .long }, accessFlags := 9, code := some k3c4 }
/-- java/lang/Math -/
def k3 : Class := { plain "java/lang/Math" (some 0) with
  accessFlags := 49
  interfaces := #[]
  cf := some (fileOf pool3 1 #[.nestMembers #[98]] #[{ accessFlags := 2, nameIndex := 7, descriptorIndex := 8, attributes := #[] }, { accessFlags := 9, nameIndex := 198, descriptorIndex := 335, attributes := #[] }, { accessFlags := 9, nameIndex := 198, descriptorIndex := 121, attributes := #[] }, { accessFlags := 9, nameIndex := 201, descriptorIndex := 335, attributes := #[] }, { accessFlags := 9, nameIndex := 201, descriptorIndex := 121, attributes := #[] }] 49 4 #[] #[{ accessFlags := 25, nameIndex := 354, descriptorIndex := 339, attributes := #[] }, { accessFlags := 25, nameIndex := 358, descriptorIndex := 339, attributes := #[] }, { accessFlags := 25, nameIndex := 361, descriptorIndex := 339, attributes := #[] }, { accessFlags := 26, nameIndex := 364, descriptorIndex := 339, attributes := #[] }, { accessFlags := 26, nameIndex := 365, descriptorIndex := 339, attributes := #[] }, { accessFlags := 26, nameIndex := 172, descriptorIndex := 173, attributes := #[] }, { accessFlags := 26, nameIndex := 176, descriptorIndex := 173, attributes := #[] }, { accessFlags := 8, nameIndex := 344, descriptorIndex := 339, attributes := #[] }, { accessFlags := 8, nameIndex := 338, descriptorIndex := 339, attributes := #[] }, { accessFlags := 4120, nameIndex := 245, descriptorIndex := 246, attributes := #[] }])
  fields := #[{ name := "E", type := .double, accessFlags := 25, slot := 0, constantValue := 0 }, { name := "PI", type := .double, accessFlags := 25, slot := 1, constantValue := 0 }, { name := "TAU", type := .double, accessFlags := 25, slot := 2, constantValue := 0 }, { name := "DEGREES_TO_RADIANS", type := .double, accessFlags := 26, slot := 3, constantValue := 0 }, { name := "RADIANS_TO_DEGREES", type := .double, accessFlags := 26, slot := 4, constantValue := 0 }, { name := "negativeZeroFloatBits", type := .long, accessFlags := 26, slot := 5, constantValue := 0 }, { name := "negativeZeroDoubleBits", type := .long, accessFlags := 26, slot := 6, constantValue := 0 }, { name := "twoToTheDoubleScaleUp", type := .double, accessFlags := 8, slot := 7, constantValue := 0 }, { name := "twoToTheDoubleScaleDown", type := .double, accessFlags := 8, slot := 8, constantValue := 0 }, { name := "$assertionsDisabled", type := .boolean, accessFlags := 4120, slot := 9, constantValue := 0 }]
  methods := #[k3m0, k3m1, k3m2, k3m3, k3m4]
  instanceTypes := #[]
  staticTypes := #[.double, .double, .double, .double, .double, .long, .long, .double, .double, .boolean]
  resolved := Array.replicate 460 none
  statics := none }

def pool4 : Array CpInfo := pool [(2, .class_ 4), (1, u "java/lang/Object"), (0, u "<init>"), (0, u "()V"), (6, .methodref 14 15), (0, .class_ 16), (0, .nameAndType 17 18), (0, u "java/util/Arrays"), (0, u "rangeCheck"), (0, u "(III)V"), (55, .class_ 76), (1, u "java/util/Arrays$NaturalOrder"), (32, u "()Ljava/lang/Object;"), (3, .class_ 115), (1, u "java/util/Arrays$LegacyMergeSort"), (1, u "Z"), (10, .nameAndType 129 109), (0, u "clone"), (20, .methodref 151 152), (0, .class_ 153), (0, .nameAndType 154 155), (0, u "java/lang/System"), (0, u "arraycopy"), (0, u "(Ljava/lang/Object;ILjava/lang/Object;II)V"), (146, u "copyOf"), (1, .methodref 305 306), (0, .class_ 307), (0, .nameAndType 308 309), (0, u "java/lang/Math"), (0, u "min"), (0, u "(II)I"), (9, .methodref 320 128), (0, .class_ 321), (0, u "[J"), (53, .class_ 376), (0, u "java/util/Arrays$ArrayList"), (68, u "$assertionsDisabled"), (269, u "MIN_ARRAY_SORT_GRAN"), (0, u "I"), (2, u "INSERTIONSORT_THRESHOLD"), (120, u "fill"), (3, u "([JIIJ)V"), (27, u "([JI)[J"), (102, .class_ 976), (0, u "java/util/Arrays$ArrayItr")] 52

def k4m0 : Method := { name := "<init>", desc := "()V", sig := { parameters := [], returnType := none }, accessFlags := 2, code := none }
def k4c1 : Code := { maxStack := 4, maxLocals := 3, code := jdk_65_method_30_code, exceptionTable := #[], attributes := #[] }
def k4m1 : Method := { name := "rangeCheck", desc := "(III)V", sig := { parameters := [.int, .int, .int], returnType := none }, accessFlags := 8, code := some k4c1 }
def k4c2 : Code := { maxStack := 4, maxLocals := 6, code := jdk_65_method_102_code, exceptionTable := #[], attributes := #[] }
def k4m2 : Method := { name := "fill", desc := "([JIIJ)V", sig := { parameters := [(.array .long), .int, .int, .long], returnType := none }, accessFlags := 9, code := some k4c2 }
def k4c3 : Code := { maxStack := 6, maxLocals := 3, code := jdk_65_method_124_code, exceptionTable := #[], attributes := #[] }
def k4m3 : Method := { name := "copyOf", desc := "([JI)[J", sig := { parameters := [(.array .long), .int], returnType := some (.array .long) }, accessFlags := 9, code := some k4c3 }
/-- java/util/Arrays -/
def k4 : Class := { plain "java/util/Arrays" (some 0) with
  accessFlags := 49
  interfaces := #[]
  cf := some (fileOf pool4 14 #[.nestMembers #[975, 375, 113, 74]] #[{ accessFlags := 2, nameIndex := 5, descriptorIndex := 6, attributes := #[] }, { accessFlags := 8, nameIndex := 17, descriptorIndex := 18, attributes := #[] }, { accessFlags := 9, nameIndex := 840, descriptorIndex := 844, attributes := #[] }, { accessFlags := 9, nameIndex := 302, descriptorIndex := 872, attributes := #[] }] 49 2 #[] #[{ accessFlags := 26, nameIndex := 715, descriptorIndex := 716, attributes := #[] }, { accessFlags := 26, nameIndex := 719, descriptorIndex := 716, attributes := #[] }, { accessFlags := 4120, nameIndex := 445, descriptorIndex := 117, attributes := #[] }])
  fields := #[{ name := "MIN_ARRAY_SORT_GRAN", type := .int, accessFlags := 26, slot := 0, constantValue := 0 }, { name := "INSERTIONSORT_THRESHOLD", type := .int, accessFlags := 26, slot := 1, constantValue := 0 }, { name := "$assertionsDisabled", type := .boolean, accessFlags := 4120, slot := 2, constantValue := 0 }]
  methods := #[k4m0, k4m1, k4m2, k4m3]
  instanceTypes := #[]
  staticTypes := #[.int, .int, .boolean]
  resolved := Array.replicate 1029 none
  statics := none }

def pool5 : Array CpInfo := pool [(1, .class_ 2), (0, u "java/lang/Cloneable"), (0, .class_ 4), (0, u "java/lang/Object")] 2

/-- java/lang/Cloneable -/
def k5 : Class := { plain "java/lang/Cloneable" (some 0) with
  accessFlags := 1537
  interfaces := #[]
  cf := some (fileOf pool5 1 #[] #[] 1537 3 #[] #[])
  fields := #[]
  methods := #[]
  instanceTypes := #[]
  staticTypes := #[]
  resolved := Array.replicate 7 none
  statics := none }

def pool6 : Array CpInfo := pool [(4, .class_ 6), (1, u "java/lang/Object"), (3, .class_ 12), (1, u "com/example/twinbase/twinbase/DoubleArray"), (0, u "alphabet"), (0, u "Lcom/example/twinbase/twinbase/Alphabet;"), (2, u "cells"), (0, u "[J"), (70, u "FREE"), (0, u "J"), (0, u "ROOT"), (0, u "I"), (2, u "END_OF_KEY"), (0, u "NO_PARENT"), (0, u "MAX_CELLS"), (1, u "NOT_FOUND")] 28

/-- com/example/twinbase/twinbase/DoubleArray -/
def k6 : Class := { plain "com/example/twinbase/twinbase/DoubleArray" (some 0) with
  accessFlags := 48
  interfaces := #[]
  cf := some (fileOf pool6 10 #[] #[] 48 4 #[] #[{ accessFlags := 24, nameIndex := 91, descriptorIndex := 92, attributes := #[] }, { accessFlags := 24, nameIndex := 95, descriptorIndex := 92, attributes := #[] }, { accessFlags := 24, nameIndex := 96, descriptorIndex := 92, attributes := #[] }, { accessFlags := 24, nameIndex := 89, descriptorIndex := 90, attributes := #[] }, { accessFlags := 24, nameIndex := 97, descriptorIndex := 92, attributes := #[] }, { accessFlags := 24, nameIndex := 99, descriptorIndex := 92, attributes := #[] }, { accessFlags := 18, nameIndex := 13, descriptorIndex := 14, attributes := #[] }, { accessFlags := 18, nameIndex := 17, descriptorIndex := 18, attributes := #[] }])
  fields := #[{ name := "ROOT", type := .int, accessFlags := 24, slot := 0, constantValue := 0 }, { name := "END_OF_KEY", type := .int, accessFlags := 24, slot := 1, constantValue := 0 }, { name := "NO_PARENT", type := .int, accessFlags := 24, slot := 2, constantValue := 0 }, { name := "FREE", type := .long, accessFlags := 24, slot := 3, constantValue := 0 }, { name := "MAX_CELLS", type := .int, accessFlags := 24, slot := 4, constantValue := 0 }, { name := "NOT_FOUND", type := .int, accessFlags := 24, slot := 5, constantValue := 0 }, { name := "alphabet", type := (.object "com/example/twinbase/twinbase/Alphabet"), accessFlags := 18, slot := 0, constantValue := 0 }, { name := "cells", type := (.array .long), accessFlags := 18, slot := 1, constantValue := 0 }]
  methods := #[]
  instanceTypes := #[(.object "com/example/twinbase/twinbase/Alphabet"), (.array .long)]
  staticTypes := #[.int, .int, .int, .long, .int, .int]
  resolved := Array.replicate 128 none
  statics := some 0 }

def pool7 : Array CpInfo := pool [(2, .class_ 4), (1, u "java/lang/Object"), (0, u "<init>"), (0, u "()V"), (1, .class_ 10), (1, u "java/lang/System"), (0, u "allowSecurityManager"), (0, u "I"), (16, u "cons"), (0, u "Ljava/io/Console;"), (77, .class_ 110), (1, u "java/lang/System$CallersHolder"), (43, u "initialErrStream"), (0, u "Ljava/io/PrintStream;"), (19, u "security"), (0, u "Ljava/lang/SecurityManager;"), (31, .class_ 209), (0, u "java/lang/System$1"), (7, u "props"), (0, u "Ljava/util/Properties;"), (2, u "lineSeparator"), (0, u "Ljava/lang/String;"), (96, .class_ 321), (1, u "java/lang/System$LoggerFinder"), (5, .class_ 328), (0, u "java/lang/System$Logger"), (67, u "err"), (2, u "out"), (91, u "notSupportedJnuEncoding"), (15, u "in"), (17, u "initialIn"), (0, u "Ljava/io/InputStream;"), (35, u "bootLayer"), (0, u "Ljava/lang/ModuleLayer;"), (99, .class_ 664), (0, u "java/lang/System$2"), (9, u "NEVER"), (2, u "MAYBE"), (49, u "arraycopy"), (0, u "(Ljava/lang/Object;ILjava/lang/Object;II)V"), (72, .class_ 802), (0, u "java/lang/System$Logger$Level")] 31

def k7m0 : Method := { name := "<init>", desc := "()V", sig := { parameters := [], returnType := none }, accessFlags := 2, code := none }
def k7m1 : Method := { name := "arraycopy", desc := "(Ljava/lang/Object;ILjava/lang/Object;II)V", sig := { parameters := [(.object "java/lang/Object"), .int, (.object "java/lang/Object"), .int, .int], returnType := none }, accessFlags := 265, code := none }
/-- java/lang/System -/
def k7 : Class := { plain "java/lang/System" (some 0) with
  accessFlags := 49
  interfaces := #[]
  cf := some (fileOf pool7 8 #[.nestMembers #[319, 327, 801, 108, 663, 208]] #[{ accessFlags := 2, nameIndex := 5, descriptorIndex := 6, attributes := #[] }, { accessFlags := 265, nameIndex := 727, descriptorIndex := 728, attributes := #[] }] 49 2 #[] #[{ accessFlags := 25, nameIndex := 507, descriptorIndex := 526, attributes := #[] }, { accessFlags := 25, nameIndex := 399, descriptorIndex := 155, attributes := #[] }, { accessFlags := 25, nameIndex := 396, descriptorIndex := 155, attributes := #[] }, { accessFlags := 10, nameIndex := 525, descriptorIndex := 526, attributes := #[] }, { accessFlags := 26, nameIndex := 674, descriptorIndex := 12, attributes := #[] }, { accessFlags := 26, nameIndex := 677, descriptorIndex := 12, attributes := #[] }, { accessFlags := 10, nameIndex := 11, descriptorIndex := 12, attributes := #[] }, { accessFlags := 74, nameIndex := 175, descriptorIndex := 176, attributes := #[] }, { accessFlags := 10, nameIndex := 491, descriptorIndex := 222, attributes := #[] }, { accessFlags := 74, nameIndex := 29, descriptorIndex := 30, attributes := #[] }, { accessFlags := 74, nameIndex := 154, descriptorIndex := 155, attributes := #[] }, { accessFlags := 10, nameIndex := 217, descriptorIndex := 218, attributes := #[] }, { accessFlags := 10, nameIndex := 221, descriptorIndex := 222, attributes := #[] }, { accessFlags := 8, nameIndex := 562, descriptorIndex := 563, attributes := #[] }])
  fields := #[{ name := "in", type := (.object "java/io/InputStream"), accessFlags := 25, slot := 0, constantValue := 0 }, { name := "out", type := (.object "java/io/PrintStream"), accessFlags := 25, slot := 1, constantValue := 0 }, { name := "err", type := (.object "java/io/PrintStream"), accessFlags := 25, slot := 2, constantValue := 0 }, { name := "initialIn", type := (.object "java/io/InputStream"), accessFlags := 10, slot := 3, constantValue := 0 }, { name := "NEVER", type := .int, accessFlags := 26, slot := 4, constantValue := 0 }, { name := "MAYBE", type := .int, accessFlags := 26, slot := 5, constantValue := 0 }, { name := "allowSecurityManager", type := .int, accessFlags := 10, slot := 6, constantValue := 0 }, { name := "security", type := (.object "java/lang/SecurityManager"), accessFlags := 74, slot := 7, constantValue := 0 }, { name := "notSupportedJnuEncoding", type := (.object "java/lang/String"), accessFlags := 10, slot := 8, constantValue := 0 }, { name := "cons", type := (.object "java/io/Console"), accessFlags := 74, slot := 9, constantValue := 0 }, { name := "initialErrStream", type := (.object "java/io/PrintStream"), accessFlags := 74, slot := 10, constantValue := 0 }, { name := "props", type := (.object "java/util/Properties"), accessFlags := 10, slot := 11, constantValue := 0 }, { name := "lineSeparator", type := (.object "java/lang/String"), accessFlags := 10, slot := 12, constantValue := 0 }, { name := "bootLayer", type := (.object "java/lang/ModuleLayer"), accessFlags := 8, slot := 13, constantValue := 0 }]
  methods := #[k7m0, k7m1]
  instanceTypes := #[]
  staticTypes := #[(.object "java/io/InputStream"), (.object "java/io/PrintStream"), (.object "java/io/PrintStream"), (.object "java/io/InputStream"), .int, .int, .int, (.object "java/lang/SecurityManager"), (.object "java/lang/String"), (.object "java/io/Console"), (.object "java/io/PrintStream"), (.object "java/util/Properties"), (.object "java/lang/String"), (.object "java/lang/ModuleLayer")]
  resolved := Array.replicate 834 none
  statics := none }

def pool8 : Array CpInfo := pool [(1, .class_ 2), (0, u "java/io/Serializable"), (0, .class_ 4), (0, u "java/lang/Object")] 2

/-- java/io/Serializable -/
def k8 : Class := { plain "java/io/Serializable" (some 0) with
  accessFlags := 1537
  interfaces := #[]
  cf := some (fileOf pool8 1 #[] #[] 1537 3 #[] #[])
  fields := #[]
  methods := #[]
  instanceTypes := #[]
  staticTypes := #[]
  resolved := Array.replicate 7 none
  statics := none }

def pool9 : Array CpInfo := pool [(2, .class_ 4), (1, u "java/lang/Object"), (0, u "<init>"), (0, u "()V"), (1, .class_ 10), (1, u "java/lang/Number"), (2, .class_ 14), (0, u "java/io/Serializable"), (0, u "serialVersionUID"), (0, u "J")] 20

def k9m0 : Method := { name := "<init>", desc := "()V", sig := { parameters := [], returnType := none }, accessFlags := 1, code := none }
/-- java/lang/Number -/
def k9 : Class := { plain "java/lang/Number" (some 0) with
  accessFlags := 1057
  interfaces := #[8]
  cf := some (fileOf pool9 8 #[] #[{ accessFlags := 1, nameIndex := 5, descriptorIndex := 6, attributes := #[] }] 1057 2 #[13] #[{ accessFlags := 26, nameIndex := 15, descriptorIndex := 16, attributes := #[] }])
  fields := #[{ name := "serialVersionUID", type := .long, accessFlags := 26, slot := 0, constantValue := 0 }]
  methods := #[k9m0]
  instanceTypes := #[]
  staticTypes := #[.long]
  resolved := Array.replicate 37 none
  statics := none }

def pool10 : Array CpInfo := pool [(1, .class_ 2), (0, u "java/lang/Comparable"), (0, .class_ 4), (0, u "java/lang/Object")] 7

/-- java/lang/Comparable -/
def k10 : Class := { plain "java/lang/Comparable" (some 0) with
  accessFlags := 1537
  interfaces := #[]
  cf := some (fileOf pool10 1 #[] #[] 1537 3 #[] #[])
  fields := #[]
  methods := #[]
  instanceTypes := #[]
  staticTypes := #[]
  resolved := Array.replicate 12 none
  statics := none }

def pool11 : Array CpInfo := pool [(1, .class_ 2), (0, u "java/lang/constant/Constable"), (0, .class_ 4), (0, u "java/lang/Object")] 6

/-- java/lang/constant/Constable -/
def k11 : Class := { plain "java/lang/constant/Constable" (some 0) with
  accessFlags := 1537
  interfaces := #[]
  cf := some (fileOf pool11 1 #[] #[] 1537 3 #[] #[])
  fields := #[]
  methods := #[]
  instanceTypes := #[]
  staticTypes := #[]
  resolved := Array.replicate 11 none
  statics := none }

def pool12 : Array CpInfo := pool [(1, .class_ 2), (0, u "java/lang/constant/ConstantDesc"), (0, .class_ 4), (0, u "java/lang/Object")] 32

/-- java/lang/constant/ConstantDesc -/
def k12 : Class := { plain "java/lang/constant/ConstantDesc" (some 0) with
  accessFlags := 1537
  interfaces := #[]
  cf := some (fileOf pool12 1 #[] #[] 1537 3 #[] #[])
  fields := #[]
  methods := #[]
  instanceTypes := #[]
  staticTypes := #[]
  resolved := Array.replicate 37 none
  statics := none }

def pool13 : Array CpInfo := pool [(1, .class_ 2), (0, u "java/lang/Long"), (15, .class_ 20), (1, u "java/lang/Integer"), (80, u "(J)I"), (133, .class_ 237), (1, u "java/lang/Long$LongCache"), (33, .class_ 272), (0, u "java/lang/Number"), (2, u "value"), (0, u "J"), (33, u "(I)I"), (0, .methodref 18 312), (0, .nameAndType 313 310), (0, u "numberOfTrailingZeros"), (47, u "TYPE"), (0, u "Ljava/lang/Class;"), (0, .class_ 364), (0, u "java/lang/Comparable"), (0, .class_ 366), (0, u "java/lang/constant/Constable"), (0, .class_ 368), (0, u "java/lang/constant/ConstantDesc"), (0, u "MIN_VALUE"), (1, u "MAX_VALUE"), (4, u "SIZE"), (0, u "I"), (1, u "BYTES"), (1, u "serialVersionUID")] 142

def k13c0 : Code := { maxStack := 4, maxLocals := 3, code := jdk_35_method_49_code, exceptionTable := #[], attributes := #[] }
def k13m0 : Method := { name := "numberOfTrailingZeros", desc := "(J)I", sig := { parameters := [.long], returnType := some .int }, accessFlags := 9, code := some k13c0 }
/-- java/lang/Long -/
def k13 : Class := { plain "java/lang/Long" (some 9) with
  accessFlags := 49
  interfaces := #[10, 11, 12]
  cf := some (fileOf pool13 1 #[.nestMembers #[235]] #[{ accessFlags := 9, nameIndex := 313, descriptorIndex := 101, attributes := #[] }] 49 271 #[363, 365, 367] #[{ accessFlags := 25, nameIndex := 369, descriptorIndex := 276, attributes := #[] }, { accessFlags := 25, nameIndex := 371, descriptorIndex := 276, attributes := #[] }, { accessFlags := 25, nameIndex := 361, descriptorIndex := 362, attributes := #[] }, { accessFlags := 18, nameIndex := 275, descriptorIndex := 276, attributes := #[] }, { accessFlags := 25, nameIndex := 376, descriptorIndex := 377, attributes := #[] }, { accessFlags := 25, nameIndex := 379, descriptorIndex := 377, attributes := #[] }, { accessFlags := 26, nameIndex := 381, descriptorIndex := 276, attributes := #[] }])
  fields := #[{ name := "MIN_VALUE", type := .long, accessFlags := 25, slot := 0, constantValue := 0 }, { name := "MAX_VALUE", type := .long, accessFlags := 25, slot := 1, constantValue := 0 }, { name := "TYPE", type := (.object "java/lang/Class"), accessFlags := 25, slot := 2, constantValue := 0 }, { name := "value", type := .long, accessFlags := 18, slot := 0, constantValue := 0 }, { name := "SIZE", type := .int, accessFlags := 25, slot := 3, constantValue := 0 }, { name := "BYTES", type := .int, accessFlags := 25, slot := 4, constantValue := 0 }, { name := "serialVersionUID", type := .long, accessFlags := 26, slot := 5, constantValue := 0 }]
  methods := #[k13m0]
  instanceTypes := #[.long]
  staticTypes := #[.long, .long, (.object "java/lang/Class"), .int, .int, .long]
  resolved := Array.replicate 524 none
  statics := none }

def pool14 : Array CpInfo := pool [(1, .class_ 2), (0, u "java/lang/Integer"), (16, u "digits"), (0, u "[C"), (33, u "(I)I"), (30, u "DigitOnes"), (0, u "[B"), (2, u "DigitTens"), (99, .class_ 190), (0, u "java/lang/Integer$IntegerCache"), (3, u "I"), (8, .class_ 204), (0, u "java/lang/Number"), (2, u "value"), (56, .integer 65536), (37, u "TYPE"), (0, u "Ljava/lang/Class;"), (0, .class_ 305), (0, u "java/lang/Comparable"), (0, .class_ 307), (0, u "java/lang/constant/Constable"), (0, .class_ 309), (0, u "java/lang/constant/ConstantDesc"), (0, u "MIN_VALUE"), (1, u "MAX_VALUE"), (3, u "SIZE"), (1, u "BYTES"), (1, u "serialVersionUID"), (0, u "J"), (84, u "numberOfTrailingZeros")] 46

def k14c0 : Code := { maxStack := 3, maxLocals := 2, code := jdk_33_method_48_code, exceptionTable := #[], attributes := #[] }
def k14m0 : Method := { name := "numberOfTrailingZeros", desc := "(I)I", sig := { parameters := [.int], returnType := some .int }, accessFlags := 9, code := some k14c0 }
/-- java/lang/Integer -/
def k14 : Class := { plain "java/lang/Integer" (some 9) with
  accessFlags := 49
  interfaces := #[10, 11, 12]
  cf := some (fileOf pool14 1 #[.nestMembers #[189]] #[{ accessFlags := 9, nameIndex := 406, descriptorIndex := 54, attributes := #[] }] 49 203 #[304, 306, 308] #[{ accessFlags := 25, nameIndex := 310, descriptorIndex := 194, attributes := #[] }, { accessFlags := 25, nameIndex := 312, descriptorIndex := 194, attributes := #[] }, { accessFlags := 25, nameIndex := 302, descriptorIndex := 303, attributes := #[] }, { accessFlags := 24, nameIndex := 19, descriptorIndex := 20, attributes := #[] }, { accessFlags := 24, nameIndex := 89, descriptorIndex := 86, attributes := #[] }, { accessFlags := 24, nameIndex := 85, descriptorIndex := 86, attributes := #[] }, { accessFlags := 18, nameIndex := 207, descriptorIndex := 194, attributes := #[] }, { accessFlags := 25, nameIndex := 316, descriptorIndex := 194, attributes := #[] }, { accessFlags := 25, nameIndex := 318, descriptorIndex := 194, attributes := #[] }, { accessFlags := 26, nameIndex := 320, descriptorIndex := 321, attributes := #[] }])
  fields := #[{ name := "MIN_VALUE", type := .int, accessFlags := 25, slot := 0, constantValue := 0 }, { name := "MAX_VALUE", type := .int, accessFlags := 25, slot := 1, constantValue := 0 }, { name := "TYPE", type := (.object "java/lang/Class"), accessFlags := 25, slot := 2, constantValue := 0 }, { name := "digits", type := (.array .char), accessFlags := 24, slot := 3, constantValue := 0 }, { name := "DigitTens", type := (.array .byte), accessFlags := 24, slot := 4, constantValue := 0 }, { name := "DigitOnes", type := (.array .byte), accessFlags := 24, slot := 5, constantValue := 0 }, { name := "value", type := .int, accessFlags := 18, slot := 0, constantValue := 0 }, { name := "SIZE", type := .int, accessFlags := 25, slot := 6, constantValue := 0 }, { name := "BYTES", type := .int, accessFlags := 25, slot := 7, constantValue := 0 }, { name := "serialVersionUID", type := .long, accessFlags := 26, slot := 8, constantValue := 0 }]
  methods := #[k14m0]
  instanceTypes := #[.int]
  staticTypes := #[.int, .int, (.object "java/lang/Class"), (.array .char), (.array .byte), (.array .byte), .int, .int, .long]
  resolved := Array.replicate 453 none
  statics := none }

/-- the primitive byte -/
def k15 : Class := { plain "byte" none with kind := .primitive 'B', accessFlags := 0x411 }
/-- [B -/
def k16 : Class := { plain "[B" (some 0) with kind := .array 15 .byte, interfaces := #[5, 8], accessFlags := 1041 }

/-- the primitive int -/
def k17 : Class := { plain "int" none with kind := .primitive 'I', accessFlags := 0x411 }
/-- [I -/
def k18 : Class := { plain "[I" (some 0) with kind := .array 17 .int, interfaces := #[5, 8], accessFlags := 1041 }

/-- the primitive long -/
def k19 : Class := { plain "long" none with kind := .primitive 'J', accessFlags := 0x411 }
/-- [J -/
def k20 : Class := { plain "[J" (some 0) with kind := .array 19 .long, interfaces := #[5, 8], accessFlags := 1041 }

def heap : Heap := #[{ cls := 6, slots := #[.int 0, .int 0, .int 0, .long (-9223372036854775808), .int 0, .int 0], vm := .statics 6 }]
def classes : Array Class := #[k0, k1, k2, k3, k4, k5, k6, k7, k8, k9, k10, k11, k12, k13, k14, k15, k16, k17, k18, k19, k20]
def interned : List (Array UInt16 × Addr) := []
def slotsUsed : Nat := 6
def theMethod : MethodId := ⟨1, 1⟩
def args0 : Array Value := #[.int 3, .int 4, .int 5, .int 6, .long 7]
def aboutOver (below : List Frame) : State where
  vm := { classes := classes, interned := interned.toArray }
  heap := heap
  slotsUsed := slotsUsed
  threads := #[{ frames := .invoking theMethod args0 :: below }]
def below0 : List Frame := [.native { method := ⟨0, 0⟩, args := #[] }]
def about1 : State := aboutOver below0
def p0 : Program := .bare "" "" ""
def e0 : Env := launch0.env 0 0 0
theorem w_frames : about1.frames = Frame.invoking theMethod args0 :: below0 := rfl
set_option maxRecDepth 65536 in
theorem w_args : argsFit about1.vm theMethod args0 = true := by decide +kernel
set_option maxRecDepth 65536 in
theorem w_heap : heapFits about1 = true := by decide +kernel
set_option maxRecDepth 65536 in
theorem w_runnable : about1.curStatus? = some .runnable := by decide +kernel
set_option maxRecDepth 65536 in
theorem w_alone : about1.alone = true := by decide +kernel
set_option maxRecDepth 65536 in
theorem w_named : about1.methodNamed? x = some theMethod := by decide +kernel
set_option maxRecDepth 65536 in
theorem w_hears : about1.hears theMethod below0 = true := by decide +kernel
set_option maxRecDepth 65536 in
theorem w_ripe : about1.ripe theMethod args0 below0 = true := by decide +kernel
theorem w_running : about1.status = .running := rfl
set_option maxRecDepth 65536 in
theorem w_room : about1.hasRoom e0.platform room_1 = true :=
  launch0.hasRoom_least _ room_1 (by decide +kernel) (by decide +kernel) (by decide +kernel) (by decide +kernel) (by decide +kernel) (by decide +kernel)
theorem allAtoms_all (ts : List Jvm.Cond) (a : Array Jvm.Value) (st : Jvm.State) : (allAtoms ts).before a st = ts.all (fun c => c.before a st) := by
  induction ts with
  | nil => rfl
  | cons c t ih =>
    show (Jvm.Cond.and c (allAtoms t)).before a st = _
    rw [Jvm.Cond.before_and, ih, List.all_cons]
def words1 : List Jvm.Cond := Jvm.Cond.code x code maxLocals ret :: tables_1
/-- a 'code' word, met by the world's own term for the bytes: nothing is compared byte by byte -/
theorem code_word {y : MethodName} {bytes : ByteArray} {mx : Nat} {rt : Option FieldType} {a : Array Value} {s : State} {m : MethodId} {meth : Method} {c : Code} (h1 : s.methodNamed? y = some m) (h2 : s.vm.method? m = some meth) (h3 : meth.code = some c) (h4 : c.code = bytes)
    (h5 : (c.maxLocals == mx && c.exceptionTable.isEmpty && decide (c.maxStack ≤ mostOperands) && decide (meth.sig.returnType = rt) && !meth.locks && decide (parseMethodDescriptor y.desc = some meth.sig)) = true) : (Jvm.Cond.code y bytes mx rt).before a s = true := by
  simp only [Bool.and_eq_true, beq_iff_eq, Bool.not_eq_true', decide_eq_true_eq] at h5
  obtain ⟨⟨⟨⟨⟨g1, g2⟩, g3⟩, g4⟩, g5⟩, g6⟩ := h5
  simp [Cond.before, Cond.holds, Cond.value, h1, h2, h3, h4, g1, g2, g3, g4, g5, g6]
def isCode : Jvm.Cond → Bool
  | .code _ _ _ _ => true
  | _ => false
theorem all_split {L : List Jvm.Cond} {P : Jvm.Cond → Bool} (h1 : L.all (fun c => isCode c || P c) = true) (h2 : ∀ c ∈ L.filter isCode, P c = true) : L.all P = true := by
  refine List.all_eq_true.mpr fun c hc => ?_
  have h := List.all_eq_true.mp h1 c hc
  rcases Bool.eq_false_or_eq_true (isCode c) with hi | hi
  · exact h2 c (List.mem_filter.mpr ⟨hc, hi⟩)
  · simpa [hi] using h
set_option maxRecDepth 65536 in
theorem w_c0 : (Jvm.Cond.code x code maxLocals ret).before args0 about1 = true := code_word (m := ⟨1, 1⟩) (meth := k1m1) (c := k1c1) (by decide +kernel) rfl rfl rfl (by decide +kernel)
set_option maxRecDepth 65536 in
theorem w_c1 : (Jvm.Cond.code ({ cls := "com/example/twinbase/twinbase/CellSpace", name := "<init>", desc := "(I)V" } : Jvm.MethodName) prog_2_method_1_code (2 : Nat) (Option.none : Option Jvm.ClassFile.FieldType)).before args0 about1 = true := code_word (m := ⟨2, 0⟩) (meth := k2m0) (c := k2c0) (by decide +kernel) rfl rfl rfl (by decide +kernel)
set_option maxRecDepth 65536 in
theorem w_c2 : (Jvm.Cond.code ({ cls := "java/lang/Object", name := "<init>", desc := "()V" } : Jvm.MethodName) object_method_1_code (1 : Nat) (Option.none : Option Jvm.ClassFile.FieldType)).before args0 about1 = true := code_word (m := ⟨0, 0⟩) (meth := k0m0) (c := k0c0) (by decide +kernel) rfl rfl rfl (by decide +kernel)
set_option maxRecDepth 65536 in
theorem w_c3 : (Jvm.Cond.code ({ cls := "com/example/twinbase/twinbase/CellSpace", name := "grow", desc := "(I)V" } : Jvm.MethodName) prog_2_method_15_code (4 : Nat) (Option.none : Option Jvm.ClassFile.FieldType)).before args0 about1 = true := code_word (m := ⟨2, 5⟩) (meth := k2m5) (c := k2c5) (by decide +kernel) rfl rfl rfl (by decide +kernel)
set_option maxRecDepth 65536 in
theorem w_c4 : (Jvm.Cond.code ({ cls := "java/lang/Math", name := "max", desc := "(JJ)J" } : Jvm.MethodName) jdk_29_method_66_code (4 : Nat) (Option.some Jvm.ClassFile.FieldType.long)).before args0 about1 = true := code_word (m := ⟨3, 2⟩) (meth := k3m2) (c := k3c2) (by decide +kernel) rfl rfl rfl (by decide +kernel)
set_option maxRecDepth 65536 in
theorem w_c5 : (Jvm.Cond.code ({ cls := "java/lang/Math", name := "min", desc := "(JJ)J" } : Jvm.MethodName) jdk_29_method_70_code (4 : Nat) (Option.some Jvm.ClassFile.FieldType.long)).before args0 about1 = true := code_word (m := ⟨3, 4⟩) (meth := k3m4) (c := k3c4) (by decide +kernel) rfl rfl rfl (by decide +kernel)
set_option maxRecDepth 65536 in
theorem w_c6 : (Jvm.Cond.code ({ cls := "java/util/Arrays", name := "copyOf", desc := "([JI)[J" } : Jvm.MethodName) jdk_65_method_124_code (3 : Nat) (Option.some (Jvm.ClassFile.FieldType.array Jvm.ClassFile.FieldType.long))).before args0 about1 = true := code_word (m := ⟨4, 3⟩) (meth := k4m3) (c := k4c3) (by decide +kernel) rfl rfl rfl (by decide +kernel)
set_option maxRecDepth 65536 in
theorem w_c7 : (Jvm.Cond.code ({ cls := "java/util/Arrays", name := "fill", desc := "([JIIJ)V" } : Jvm.MethodName) jdk_65_method_102_code (6 : Nat) (Option.none : Option Jvm.ClassFile.FieldType)).before args0 about1 = true := code_word (m := ⟨4, 2⟩) (meth := k4m2) (c := k4c2) (by decide +kernel) rfl rfl rfl (by decide +kernel)
set_option maxRecDepth 65536 in
theorem w_c8 : (Jvm.Cond.code ({ cls := "java/util/Arrays", name := "rangeCheck", desc := "(III)V" } : Jvm.MethodName) jdk_65_method_30_code (3 : Nat) (Option.none : Option Jvm.ClassFile.FieldType)).before args0 about1 = true := code_word (m := ⟨4, 1⟩) (meth := k4m1) (c := k4c1) (by decide +kernel) rfl rfl rfl (by decide +kernel)
set_option maxRecDepth 65536 in
theorem w_c9 : (Jvm.Cond.code ({ cls := "com/example/twinbase/twinbase/CellSpace", name := "occupy", desc := "(I)V" } : Jvm.MethodName) prog_2_method_11_code (3 : Nat) (Option.none : Option Jvm.ClassFile.FieldType)).before args0 about1 = true := code_word (m := ⟨2, 2⟩) (meth := k2m2) (c := k2c2) (by decide +kernel) rfl rfl rfl (by decide +kernel)
set_option maxRecDepth 65536 in
theorem w_c10 : (Jvm.Cond.code ({ cls := "java/lang/Math", name := "min", desc := "(II)I" } : Jvm.MethodName) jdk_29_method_69_code (2 : Nat) (Option.some Jvm.ClassFile.FieldType.int)).before args0 about1 = true := code_word (m := ⟨3, 3⟩) (meth := k3m3) (c := k3c3) (by decide +kernel) rfl rfl rfl (by decide +kernel)
set_option maxRecDepth 65536 in
theorem w_c11 : (Jvm.Cond.code ({ cls := "java/lang/Math", name := "max", desc := "(II)I" } : Jvm.MethodName) jdk_29_method_65_code (2 : Nat) (Option.some Jvm.ClassFile.FieldType.int)).before args0 about1 = true := code_word (m := ⟨3, 1⟩) (meth := k3m1) (c := k3c1) (by decide +kernel) rfl rfl rfl (by decide +kernel)
set_option maxRecDepth 65536 in
theorem w_c12 : (Jvm.Cond.code ({ cls := "com/example/twinbase/twinbase/CellSpace", name := "isFree", desc := "(J)Z" } : Jvm.MethodName) prog_2_method_8_code (3 : Nat) (Option.some Jvm.ClassFile.FieldType.boolean)).before args0 about1 = true := code_word (m := ⟨2, 1⟩) (meth := k2m1) (c := k2c1) (by decide +kernel) rfl rfl rfl (by decide +kernel)
set_option maxRecDepth 65536 in
theorem w_c13 : (Jvm.Cond.code ({ cls := "com/example/twinbase/twinbase/CellSpace", name := "release", desc := "(I)V" } : Jvm.MethodName) prog_2_method_12_code (4 : Nat) (Option.none : Option Jvm.ClassFile.FieldType)).before args0 about1 = true := code_word (m := ⟨2, 3⟩) (meth := k2m3) (c := k2c3) (by decide +kernel) rfl rfl rfl (by decide +kernel)
set_option maxRecDepth 65536 in
theorem w_c14 : (Jvm.Cond.code ({ cls := "com/example/twinbase/twinbase/CellSpace", name := "firstFree", desc := "(J)J" } : Jvm.MethodName) prog_2_method_13_code (10 : Nat) (Option.some Jvm.ClassFile.FieldType.long)).before args0 about1 = true := code_word (m := ⟨2, 4⟩) (meth := k2m4) (c := k2c4) (by decide +kernel) rfl rfl rfl (by decide +kernel)
set_option maxRecDepth 65536 in
theorem w_c15 : (Jvm.Cond.code ({ cls := "java/lang/Long", name := "numberOfTrailingZeros", desc := "(J)I" } : Jvm.MethodName) jdk_35_method_49_code (3 : Nat) (Option.some Jvm.ClassFile.FieldType.int)).before args0 about1 = true := code_word (m := ⟨13, 0⟩) (meth := k13m0) (c := k13c0) (by decide +kernel) rfl rfl rfl (by decide +kernel)
set_option maxRecDepth 65536 in
theorem w_c16 : (Jvm.Cond.code ({ cls := "java/lang/Integer", name := "numberOfTrailingZeros", desc := "(I)I" } : Jvm.MethodName) jdk_33_method_48_code (2 : Nat) (Option.some Jvm.ClassFile.FieldType.int)).before args0 about1 = true := code_word (m := ⟨14, 0⟩) (meth := k14m0) (c := k14c0) (by decide +kernel) rfl rfl rfl (by decide +kernel)
def codes1 : List Jvm.Cond := [Jvm.Cond.code x code maxLocals ret, Jvm.Cond.code ({ cls := "com/example/twinbase/twinbase/CellSpace", name := "<init>", desc := "(I)V" } : Jvm.MethodName) prog_2_method_1_code (2 : Nat) (Option.none : Option Jvm.ClassFile.FieldType), Jvm.Cond.code ({ cls := "java/lang/Object", name := "<init>", desc := "()V" } : Jvm.MethodName) object_method_1_code (1 : Nat) (Option.none : Option Jvm.ClassFile.FieldType), Jvm.Cond.code ({ cls := "com/example/twinbase/twinbase/CellSpace", name := "grow", desc := "(I)V" } : Jvm.MethodName) prog_2_method_15_code (4 : Nat) (Option.none : Option Jvm.ClassFile.FieldType), Jvm.Cond.code ({ cls := "java/lang/Math", name := "max", desc := "(JJ)J" } : Jvm.MethodName) jdk_29_method_66_code (4 : Nat) (Option.some Jvm.ClassFile.FieldType.long), Jvm.Cond.code ({ cls := "java/lang/Math", name := "min", desc := "(JJ)J" } : Jvm.MethodName) jdk_29_method_70_code (4 : Nat) (Option.some Jvm.ClassFile.FieldType.long), Jvm.Cond.code ({ cls := "java/util/Arrays", name := "copyOf", desc := "([JI)[J" } : Jvm.MethodName) jdk_65_method_124_code (3 : Nat) (Option.some (Jvm.ClassFile.FieldType.array Jvm.ClassFile.FieldType.long)), Jvm.Cond.code ({ cls := "java/util/Arrays", name := "fill", desc := "([JIIJ)V" } : Jvm.MethodName) jdk_65_method_102_code (6 : Nat) (Option.none : Option Jvm.ClassFile.FieldType), Jvm.Cond.code ({ cls := "java/util/Arrays", name := "rangeCheck", desc := "(III)V" } : Jvm.MethodName) jdk_65_method_30_code (3 : Nat) (Option.none : Option Jvm.ClassFile.FieldType), Jvm.Cond.code ({ cls := "com/example/twinbase/twinbase/CellSpace", name := "occupy", desc := "(I)V" } : Jvm.MethodName) prog_2_method_11_code (3 : Nat) (Option.none : Option Jvm.ClassFile.FieldType), Jvm.Cond.code ({ cls := "java/lang/Math", name := "min", desc := "(II)I" } : Jvm.MethodName) jdk_29_method_69_code (2 : Nat) (Option.some Jvm.ClassFile.FieldType.int), Jvm.Cond.code ({ cls := "java/lang/Math", name := "max", desc := "(II)I" } : Jvm.MethodName) jdk_29_method_65_code (2 : Nat) (Option.some Jvm.ClassFile.FieldType.int), Jvm.Cond.code ({ cls := "com/example/twinbase/twinbase/CellSpace", name := "isFree", desc := "(J)Z" } : Jvm.MethodName) prog_2_method_8_code (3 : Nat) (Option.some Jvm.ClassFile.FieldType.boolean), Jvm.Cond.code ({ cls := "com/example/twinbase/twinbase/CellSpace", name := "release", desc := "(I)V" } : Jvm.MethodName) prog_2_method_12_code (4 : Nat) (Option.none : Option Jvm.ClassFile.FieldType), Jvm.Cond.code ({ cls := "com/example/twinbase/twinbase/CellSpace", name := "firstFree", desc := "(J)J" } : Jvm.MethodName) prog_2_method_13_code (10 : Nat) (Option.some Jvm.ClassFile.FieldType.long), Jvm.Cond.code ({ cls := "java/lang/Long", name := "numberOfTrailingZeros", desc := "(J)I" } : Jvm.MethodName) jdk_35_method_49_code (3 : Nat) (Option.some Jvm.ClassFile.FieldType.int), Jvm.Cond.code ({ cls := "java/lang/Integer", name := "numberOfTrailingZeros", desc := "(I)I" } : Jvm.MethodName) jdk_33_method_48_code (2 : Nat) (Option.some Jvm.ClassFile.FieldType.int)]
set_option maxRecDepth 65536 in
theorem codes_eq : words1.filter isCode = codes1 := rfl
theorem w_codes : ∀ c ∈ words1.filter isCode, c.before args0 about1 = true := by
  rw [codes_eq]
  intro c hc
  simp only [codes1, List.mem_cons, List.not_mem_nil, or_false] at hc
  rcases hc with rfl | rfl | rfl | rfl | rfl | rfl | rfl | rfl | rfl | rfl | rfl | rfl | rfl | rfl | rfl | rfl | rfl
  · exact w_c0
  · exact w_c1
  · exact w_c2
  · exact w_c3
  · exact w_c4
  · exact w_c5
  · exact w_c6
  · exact w_c7
  · exact w_c8
  · exact w_c9
  · exact w_c10
  · exact w_c11
  · exact w_c12
  · exact w_c13
  · exact w_c14
  · exact w_c15
  · exact w_c16
set_option maxRecDepth 65536 in
theorem w_t1 : (words1.take 24).all (fun c => isCode c || c.before args0 about1) = true := by decide +kernel
set_option maxRecDepth 65536 in
theorem w_t2 : ((words1.drop 24).take 24).all (fun c => isCode c || c.before args0 about1) = true := by decide +kernel
set_option maxRecDepth 65536 in
theorem w_t3 : (((words1.drop 24).drop 24).take 24).all (fun c => isCode c || c.before args0 about1) = true := by decide +kernel
set_option maxRecDepth 65536 in
theorem w_t4 : ((((words1.drop 24).drop 24).drop 24).take 24).all (fun c => isCode c || c.before args0 about1) = true := by decide +kernel
set_option maxRecDepth 65536 in
theorem w_t5 : ((((words1.drop 24).drop 24).drop 24).drop 24).all (fun c => isCode c || c.before args0 about1) = true := by decide +kernel
theorem w_tables : (allAtoms (Jvm.Cond.code x code maxLocals ret :: tables_1)).before args0 about1 = true := by
  rw [allAtoms_all]
  show words1.all (fun c => c.before args0 about1) = true
  refine all_split ?_ w_codes
  rw [← List.take_append_drop 24 words1, List.all_append, w_t1, ← List.take_append_drop 24 (words1.drop 24), List.all_append, w_t2, ← List.take_append_drop 24 ((words1.drop 24).drop 24), List.all_append, w_t3, ← List.take_append_drop 24 (((words1.drop 24).drop 24).drop 24), List.all_append, w_t4, w_t5]
  rfl
set_option maxRecDepth 65536 in
theorem w_case : (Jvm.Cond.and given_1 narrow_1).before args0 about1 = true := by decide +kernel
theorem w_applies : (headSpec (Jvm.Cond.code x code maxLocals ret :: tables_1) room_1).applies x e0.platform about1 = true :=
  (Spec.applies_iff w_frames).mpr ⟨w_running, w_runnable, w_alone, w_named, w_hears, w_ripe, w_room, w_tables⟩
theorem atStart : AtStart classFile x code maxLocals ret World_1 tables_1 room_1 Calls_1 rest_1 Pre_1 launch0 p0 e0 about1 theMethod args0 below0 :=
  ⟨lists_1, trivial, launch0.admits_env _ _ _, launch0.least_env, fairChoices_fair.cas, fairChoices_fair.clock, w_frames, w_args, w_heap, w_applies, trivial, trivial, w_case⟩
end start1
theorem witness_1 : WitnessClaimed_1 := ⟨start1.p0, start1.e0, start1.about1, start1.theMethod, start1.args0, start1.below0, start1.atStart⟩
end Jvm.Pilot.@@N@@
