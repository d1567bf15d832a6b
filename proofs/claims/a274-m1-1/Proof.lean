import JvmDerived
import JvmDerived.Pilot.@@N@@Statement
import JvmDerived.Pilot.@@N@@Code
set_option linter.unusedVariables false
set_option linter.unusedSimpArgs false
namespace Jvm.RoadKit
open Sem ClassFile Op Lib Jvm.Stand Jvm.Free Jvm.LawKit
section New
variable {p : Program} {l : Launch} {e : Env} {R : Room} {s : State} {m : MethodId} {args : Array Value} {below : List Frame} {meth : Method} {c : Code} {T : State} {locs : List Loc} {cells slots : Nat}
theorem retI (X : Stand p l e R s m args below meth c T locs cells slots) (hx : p.tables.exec = Jvm.exec) {pc : Nat} {Ls : Array Slot} {z : Int32} {rest : List Value} (hret : meth.sig.returnType = some .int) (hd : decode c.code pc = .ok (.ireturn, 1)) {fs : List Frame}
    (hl : ∀ (f : JFrame) (acts : List Action), f.method = m → f.locked = none → f.entered = [] → (doReturn e (T.setTop f) acts (some (.int z))).1 = T.setFrames fs) : Steps p.tables e below (T.setTop (mkF m pc Ls (.int z :: rest))) (T.setFrames fs) := by
  have hm' : T.vm.method? m = some meth := X.method'
  have hn : narrow .int (.int z) = .int z := rfl
  show Steps p.tables e below (T.setTop { method := m, pc := pc, locals := Ls, stack := _ :: rest, locked := none }) _
  jvm_step X.here [X.here.top, hx, hd, hm', hret, hn]
  first | (intro acts; rw [hl _ acts rfl rfl rfl]) | rw [hl _ _ rfl rfl rfl]
  exact Steps.refl _
end New
end Jvm.RoadKit
namespace Jvm.Pilot.@@N@@
open Jvm Jvm.ClassFile Sem Op Lib Jvm.Free Jvm.Stand Jvm.LawKit Jvm.RoadKit Bundle Jvm.Pilot.@@N@@.Jvm.D
/-- an array of n components, the i-th holding f i -/
def own_Ar (Z : State) (h : Heap) (a : Addr) (ty : FieldType) (n : Nat) (f : Nat → Value) : Prop :=
  ∃ c : Cell, Arr Z h a c ty ∧ c.slots.size = n ∧ n < 2147483648 ∧ (∀ i, i < n → c.slots[i]? = some (f i)) ∧ ∀ i, i < n → fits ty (f i) = true
theorem own_nat {j : Int32} (q : 0 ≤ j.toInt) : (j.toNatClampNeg : Int) = j.toInt := by
  simp only [Int32.toNatClampNeg]; omega
theorem own_lt0 {j : Int32} (q : 0 ≤ j.toInt) : ¬ j < 0 := by
  rw [Int32.lt_iff_toInt_lt]; have : (0 : Int32).toInt = 0 := rfl; omega
theorem own_ge0 {j : Int32} (q : ¬ j < 0) : 0 ≤ j.toInt := by
  rw [Int32.lt_iff_toInt_lt] at q; have : (0 : Int32).toInt = 0 := rfl; omega
theorem own_Ar.lt {Z : State} {h : Heap} {a : Addr} {ty : FieldType} {n : Nat} {f : Nat → Value} (F : own_Ar Z h a ty n f) : a < h.size := by obtain ⟨c, A, -⟩ := F; exact A.lt
theorem own_Ar.ext {Z : State} {h h' : Heap} {a : Addr} {ty : FieldType} {n : Nat} {f : Nat → Value} (F : own_Ar Z h a ty n f) (E : Ext h h') : own_Ar Z h' a ty n f := by obtain ⟨c, A, r⟩ := F; exact ⟨c, A.ext E, r⟩
theorem own_Ar.other {Z : State} {h h' : Heap} {a b : Addr} {sl : Nat} {v : Value} {ty : FieldType} {n : Nat} {f : Nat → Value} (F : own_Ar Z h b ty n f) (W : Wr h h' a sl v) (q : b ≠ a) : own_Ar Z h' b ty n f := by obtain ⟨c, A, r⟩ := F; exact ⟨c, A.other W q, r⟩
theorem own_Ar.keep {Z : State} {h h' : Heap} {a : Addr} {ws : List Addr} {ty : FieldType} {n : Nat} {f : Nat → Value} (F : own_Ar Z h a ty n f) (K : Keep h h' ws) (q : a ∉ ws) : own_Ar Z h' a ty n f := by obtain ⟨c, A, r⟩ := F; exact ⟨c, ⟨K.2.1 a c A.1 q, A.2⟩, r⟩
theorem own_Ar.eq {Z : State} {h : Heap} {a : Addr} {ty : FieldType} {n : Nat} {f g : Nat → Value} (F : own_Ar Z h a ty n f) (q : ∀ i, i < n → f i = g i) : own_Ar Z h a ty n g := by
  obtain ⟨c, A, r1, r2, r3, r4⟩ := F
  exact ⟨c, A, r1, r2, fun i hi => by rw [← q i hi]; exact r3 i hi, fun i hi => by rw [← q i hi]; exact r4 i hi⟩
theorem own_Ar.size {Z : State} {h : Heap} {a : Addr} {ty : FieldType} {n m : Nat} {f : Nat → Value} (F : own_Ar Z h a ty n f) (q : n = m) : own_Ar Z h a ty m f := q ▸ F
theorem own_fits_default (ty : FieldType) : fits ty (defaultValue ty) = true := by cases ty <;> rfl
/-- a new array -/
theorem own_Ar.new {Z : State} {h : Heap} {a : Addr} {k : ClassId} {ty : FieldType} {z : Int32} {n : Nat} (A : Arr Z h a (newA k ty z) ty) (q : z.toInt = n) : own_Ar Z h a ty n (fun _ => defaultValue ty) := by
  have e : z.toNatClampNeg = n := by have := own_nat (j := z) (by omega); omega
  obtain ⟨c, A', q1, S, q3, H, G⟩ := Arv.new A (own_lt0 (by omega))
  have r := z.toInt_lt
  refine ⟨c, A', S.trans e, by omega, fun i hi => by rw [H i (by omega)]; rfl, fun i hi => own_fits_default ty⟩
/-- a component read -/
theorem own_Ar.at {Z : State} {h : Heap} {a : Addr} {ty : FieldType} {n : Nat} {f : Nat → Value} (F : own_Ar Z h a ty n f) {j : Int32} {i : Nat} (hj : j.toInt = i) (hi : i < n) :
    ∃ c : Cell, Arr Z h a c ty ∧ ¬ (j < 0 ∨ c.slots.size ≤ j.toNatClampNeg) ∧ c.slots[j.toNatClampNeg]? = some (f i) := by
  obtain ⟨c, A, r1, r2, r3, r4⟩ := F
  have e : j.toNatClampNeg = i := by have := own_nat (j := j) (by omega); omega
  refine ⟨c, A, fun q => q.elim (own_lt0 (by omega)) (fun u => by omega), by rw [e]; exact r3 i hi⟩
/-- its length -/
theorem own_Ar.len {Z : State} {h : Heap} {a : Addr} {ty : FieldType} {n : Nat} {f : Nat → Value} (F : own_Ar Z h a ty n f) : ∃ c : Cell, Arr Z h a c ty ∧ c.slots.size.toInt32 = Int32.ofNat n ∧ n < 2147483648 := by
  obtain ⟨c, A, r1, r2, r3, r4⟩ := F
  exact ⟨c, A, by rw [r1], r2⟩
theorem own_ofNat {n : Nat} (h : n < 2147483648) : (Int32.ofNat n).toInt = n := Int32.toInt_ofNat_of_lt (by omega)
/-- a component written -/
theorem own_Ar.set {Z : State} {h h' : Heap} {a : Addr} {ty : FieldType} {n : Nat} {f : Nat → Value} {v : Value} (F : own_Ar Z h a ty n f) {j : Int32} {i : Nat} (hj : j.toInt = i) (W : Wr h h' a j.toNatClampNeg v) (hv : fits ty v = true) :
    own_Ar Z h' a ty n (fun k => if k = i then v else f k) := by
  obtain ⟨c, A, r1, r2, r3, r4⟩ := F
  have e : j.toNatClampNeg = i := by have := own_nat (j := j) (by omega); omega
  obtain ⟨c', q1, q2, q3, q4, q5, q6, q7⟩ := wr_at W A.1
  obtain ⟨q8, q9, q10⟩ := q7 rfl
  have A' := A.same W
  rw [← q8] at A'
  refine ⟨c', A', q4.trans r1, r2, fun k hk => ?_, fun k hk => ?_⟩ <;> dsimp only
  · by_cases u : k = i
    · subst u; rw [if_pos rfl, ← e]; exact q9
    · rw [if_neg u, q6 k (by omega)]; exact r3 k hk
  · by_cases u : k = i
    · rw [if_pos u]; exact hv
    · rw [if_neg u]; exact r4 k hk
theorem own_ins {j : Int32} {n i : Nat} {c : Cell} (r1 : c.slots.size = n) (hj : j.toInt = i) (hi : i < n) : ¬ (j < 0 ∨ c.slots.size ≤ j.toNatClampNeg) := by
  have e : j.toNatClampNeg = i := by have := own_nat (j := j) (by omega); omega
  exact fun q => q.elim (own_lt0 (by omega)) (fun u => by omega)
theorem own_Ar.arv {Z : State} {h : Heap} {a : Addr} {ty : FieldType} {n : Nat} {f : Nat → Value} (F : own_Ar Z h a ty n f) (d : Value) : ∃ k, Arv Z h a k ty (Int32.ofNat n) ((List.range n).map f) d := by
  obtain ⟨c, A, r1, r2, r3, r4⟩ := F
  have e := own_ofNat r2
  have e2 : (Int32.ofNat n).toNatClampNeg = n := by have := own_nat (j := Int32.ofNat n) (by omega); omega
  refine ⟨c.cls, c, A, rfl, by rw [e2]; exact r1, own_lt0 (by omega), fun i hi => ?_, fun i hi => ?_⟩
  · rw [r3 i (by omega)]; simp [List.getD, show i < n by omega]
  · have := r4 i (by omega); simpa [List.getD, show i < n by omega] using this
theorem own_Ar.of_arv {Z : State} {h : Heap} {a : Addr} {k : ClassId} {ty : FieldType} {z : Int32} {vs : List Value} {d : Value} {n : Nat} (F : Arv Z h a k ty z vs d) (q : z.toInt = n) : own_Ar Z h a ty n (fun i => vs.getD i d) := by
  obtain ⟨c, A, r1, r2, r3, H, G⟩ := F
  have e : z.toNatClampNeg = n := by have := own_nat (j := z) (by omega); omega
  have r := z.toInt_lt
  exact ⟨c, A, r2.trans e, by omega, fun i hi => H i (by omega), fun i hi => G i (by omega)⟩
theorem own_cp {p : Program} {l : Launch} {e : Env} {R : Room} {s : State} {m : MethodId} {args : Array Value} {below : List Frame} {meth : Method} {c : Code} {T : State} {locs : List Loc} {cells slots : Nat} {Z : State} {h : Heap} {a b : Addr}
    (X : Stand p l e R s m args below meth c T locs cells slots) (hx : p.tables.exec = Jvm.exec) (hZ : Z.Warmed39 s.vm) {a0 : Array Value} {own : String} {index : Nat} (hown : s.vm.findClass own = some m.cls)
    (w1 : (Cond.methodLink own index Jvm.Stand.acN).before a0 Z = true) (w2 : (Cond.native Jvm.Stand.acN).before a0 Z = true) (w3 : (Cond.static Jvm.Stand.acN).before a0 Z = true) (w4 : (Cond.initialized "java/lang/System").before a0 Z = true) (eT : T.heap = h)
    {ty : FieldType} {n n' : Nat} {f f' : Nat → Value} (A : own_Ar Z h a ty n f) (B : own_Ar Z h b ty n' f') (hp : refKind ty = false) {k : Nat} (hk1 : k ≤ n) (hk2 : k ≤ n') {nn : Int32} (hnn : nn.toInt = k) {n0 : Nat} (N : Fr n0 locs) (ge : n0 ≤ b)
    {g : JFrame} (hg : g.method = m) (hsize : g.locals.size = c.maxLocals) {rest : List Value} (hs : g.stack = .int nn :: .int 0 :: .ref b :: .int 0 :: .ref a :: rest) (hd : decode c.code g.pc = .ok (.invokestatic index, 3))
    (hf : 1 ≤ R.frames) {W : Nat} (hW : 2 * g.monitorRoom + (rest.map fun v => v.category).sum ≤ W) (hlo : W + (nativeFrameWords "java/lang/System" "arraycopy" 5 + 11) ≤ R.locals) :
    ∃ T' h' L, Stand p l e R s m args below meth c T' L cells slots ∧ T'.heap = h' ∧ Fr n0 L ∧ Keep h h' [b] ∧ own_Ar Z h' b ty n' (fun i => if i < k then f i else f' i) ∧
      ∀ target, Steps p.tables e below (T'.setTop { g with pc := g.pc + 3, stack := rest }) target → Steps p.tables e below (T.setTop g) target := by
  obtain ⟨kA, VA⟩ := A.arv .null
  obtain ⟨kB, VB⟩ := B.arv .null
  have hn : n < 2147483648 := by obtain ⟨_, _, _, r, _⟩ := A; exact r
  have hn' : n' < 2147483648 := by obtain ⟨_, _, _, r, _⟩ := B; exact r
  have en := own_ofNat hn
  have en' := own_ofNat hn'
  have e1 : (Int32.ofNat n).toNatClampNeg = n := by have := own_nat (j := Int32.ofNat n) (by omega); omega
  have e2 : (Int32.ofNat n').toNatClampNeg = n' := by have := own_nat (j := Int32.ofNat n') (by omega); omega
  have e3 : nn.toNatClampNeg = k := by have := own_nat (j := nn) (by omega); omega
  have e0 : (0 : Int32).toNatClampNeg = 0 := rfl
  obtain ⟨T', h', L, X', eT', N', K', V', st⟩ := cpA X hx hZ hown w1 w2 w3 w4 eT (sp := 0) (dp := 0) (nn := nn) VA VB (Or.inl ⟨rfl, hp⟩) (by decide) (by decide) (own_lt0 (by omega)) (by rw [e1, e3, e0]; omega) (by rw [e2, e3, e0]; omega) rfl (by rw [e3, e0, List.length_map, List.length_range]; omega) N ge hg hsize hs hd hf hW hlo
  refine ⟨T', h', L, X', eT', N', K', ?_, st⟩
  refine (own_Ar.of_arv V' en').eq fun i hi => ?_
  rw [e3, e0]
  simp only [List.take_zero, List.nil_append, Nat.zero_add, List.getD_eq_getElem?_getD]
  by_cases u : i < k
  · rw [if_pos u, List.getElem?_append_left (by simpa using u)]
    simp [u, show i < n by omega]
  · rw [if_neg u, List.getElem?_append_right (by simpa using Nat.le_of_not_lt u)]
    simp only [List.length_map, List.length_range, List.getElem?_drop, show k + (i - k) = i by omega]
    simp [hi]
def own_max (p1 p2 : Int32) : Int32 := if p1 < p2 then p2 else p1
theorem own_max_t {p1 p2 : Int32} (h : p1 < p2) : own_max p1 p2 = p2 := if_pos h
theorem own_max_f {p1 p2 : Int32} (h : ¬ p1 < p2) : own_max p1 p2 = p1 := if_neg h
def own_min (p1 p2 : Int32) : Int32 := if p2 < p1 then p2 else p1
theorem own_min_t {p1 p2 : Int32} (h : p2 < p1) : own_min p1 p2 = p2 := if_pos h
theorem own_min_f {p1 p2 : Int32} (h : ¬ p2 < p1) : own_min p1 p2 = p1 := if_neg h
def own_maxL (p1 p2 : Int64) : Int64 := if p1 < p2 then p2 else p1
theorem own_maxL_t {p1 p2 : Int64} (h : p1 < p2) : own_maxL p1 p2 = p2 := if_pos h
theorem own_maxL_f {p1 p2 : Int64} (h : ¬ p1 < p2) : own_maxL p1 p2 = p1 := if_neg h
def own_minL (p1 p2 : Int64) : Int64 := if p2 < p1 then p2 else p1
theorem own_minL_t {p1 p2 : Int64} (h : p2 < p1) : own_minL p1 p2 = p2 := if_pos h
theorem own_minL_f {p1 p2 : Int64} (h : ¬ p2 < p1) : own_minL p1 p2 = p1 := if_neg h
theorem own_lt_of {p q : Int32} (h : p.toInt < q.toInt) : p < q := Int32.lt_iff_toInt_lt.mpr h
theorem own_nlt_of {p q : Int32} (h : q.toInt ≤ p.toInt) : ¬ p < q := fun u => by rw [Int32.lt_iff_toInt_lt] at u; omega
theorem own_ltL_of {p q : Int64} (h : p.toInt < q.toInt) : p < q := Int64.lt_iff_toInt_lt.mpr h
theorem own_nltL_of {p q : Int64} (h : q.toInt ≤ p.toInt) : ¬ p < q := fun u => by rw [Int64.lt_iff_toInt_lt] at u; omega
theorem own_ne_of {p q : Int32} (h : p.toInt ≠ q.toInt) : ¬ p = q := fun u => h (by rw [u])
theorem own_eq_of {p q : Int32} (h : p.toInt = q.toInt) : p = q := Int32.toInt_inj.mp h
def own_B (Z : State) (h : Heap) (n0 : Nat) (a1 : Addr) (al cnt : Int32) (bN bA : Addr) (nN nA : Nat) (fN fA : Nat → Value) : Prop :=
  Exa Z h a1 "com/example/boxwise/boxwise/Dfa$Builder" ∧ Fld Z h a1 "com/example/boxwise/boxwise/Dfa$Builder" "next" "[I" (.ref bN) ∧ Fld Z h a1 "com/example/boxwise/boxwise/Dfa$Builder" "accepting" "[Z" (.ref bA) ∧ Fld Z h a1 "com/example/boxwise/boxwise/Dfa$Builder" "alphabetSize" "I" (.int al) ∧ Fld Z h a1 "com/example/boxwise/boxwise/Dfa$Builder" "stateCount" "I" (.int cnt) ∧ own_Ar Z h bN .int nN fN ∧ own_Ar Z h bA .boolean nA fA ∧ a1 ≠ bN ∧ a1 ≠ bA ∧ bN ≠ bA ∧ n0 ≤ bN ∧ n0 ≤ bA
theorem own_m16 : own_max (16 : Int32) ((0 : Int32) * (2 : Int32)) = 16 := by decide
theorem own_ne0 {al : Int32} {n : Nat} (h : al.toInt = n) (q : 1 ≤ n) : al ≠ 0 := fun u => by rw [u] at h; have : (0 : Int32).toInt = 0 := rfl; omega
theorem own_s3 {p m : Int32} (hm : 0 ≤ m.toInt) : ∃ n : Nat, n < 3 ∧ ((p &&& m) % (3 : Int32)).toInt = n := by
  have a := c_and p m hm
  have b := (c_irem (p &&& m) 3 3 rfl).1 a.1
  exact ⟨((p &&& m) % (3 : Int32)).toInt.toNat, by omega, by omega⟩
theorem own_l {x al : Int32} {n : Nat} (hx : 0 ≤ x.toInt) (h : al.toInt = n) (q : 1 ≤ n) : ∃ k : Nat, k < n ∧ (x % al).toInt = k := by
  have a := (c_iremV x al).1 hx (by omega)
  exact ⟨(x % al).toInt.toNat, by omega, by omega⟩
theorem own_ix {s al l : Int32} {sn an ln : Nat} (hs : s.toInt = sn) (ha : al.toInt = an) (hl : l.toInt = ln) (h3 : sn < 3) (h8 : an ≤ 8) (hln : ln < an) : (s * al + l).toInt = (sn * an + ln : Nat) ∧ sn * an + ln < 16 * an := by
  have a := c_imul s al
  have b := c_iadd (s * al) l
  have r1 := rng32 (s * al)
  have r2 := rng32 (s * al + l)
  rw [hs, ha] at a
  have : sn = 0 ∨ sn = 1 ∨ sn = 2 := by omega
  rcases this with rfl | rfl | rfl <;> omega
theorem own_ix_inj {s1 l1 s2 l2 an : Nat} (h1 : l1 < an) (h2 : l2 < an) (q : s1 * an + l1 = s2 * an + l2) : s1 = s2 ∧ l1 = l2 := by
  have e1 : (s1 * an + l1) / an = s1 := by rw [Nat.mul_comm, Nat.mul_add_div (by omega), Nat.div_eq_of_lt h1]; rfl
  have e2 : (s2 * an + l2) / an = s2 := by rw [Nat.mul_comm, Nat.mul_add_div (by omega), Nat.div_eq_of_lt h2]; rfl
  have e : s1 = s2 := by rw [← e1, ← e2, q]
  subst e; exact ⟨rfl, by omega⟩
theorem own_eqn {s1 s2 : Int32} {n1 n2 : Nat} (h1 : s1.toInt = n1) (h2 : s2.toInt = n2) : s1 = s2 ↔ n1 = n2 := by
  rw [← Int32.toInt_inj, h1, h2]; omega
def own_b (s1 l1 s2 l2 : Int32) : Int32 := if s1 = s2 ∧ l1 = l2 then 1 else 0
def own_e1 (s1 l1 s2 l2 t1 t2 : Int32) : Int32 := if s1 = s2 ∧ l1 = l2 then t2 else t1
def own_e3 (s1 l1 s2 l2 s3 l3 t1 t2 : Int32) : Int32 := if s3 = s2 ∧ l3 = l2 then t2 else if s3 = s1 ∧ l3 = l1 then t1 else -1
/-- what stands at the place of (s, l) behind the two writes -/
theorem own_at {s l s1 l1 s2 l2 t1 t2 : Int32} {sn ln sn1 ln1 sn2 ln2 an : Nat} (hs : s.toInt = sn) (hl : l.toInt = ln) (hs1 : s1.toInt = sn1) (hl1 : l1.toInt = ln1) (hs2 : s2.toInt = sn2) (hl2 : l2.toInt = ln2) (q : ln < an) (q1 : ln1 < an) (q2 : ln2 < an) :
    (if sn * an + ln = sn2 * an + ln2 then Value.int t2 else if sn * an + ln = sn1 * an + ln1 then Value.int t1 else Value.int (-1)) = Value.int (own_e3 s1 l1 s2 l2 s l t1 t2) := by
  have c2 : (s = s2 ∧ l = l2) ↔ sn * an + ln = sn2 * an + ln2 := by
    rw [own_eqn hs hs2, own_eqn hl hl2]; exact ⟨fun u => by rw [u.1, u.2], fun u => own_ix_inj q q2 u⟩
  have c1 : (s = s1 ∧ l = l1) ↔ sn * an + ln = sn1 * an + ln1 := by
    rw [own_eqn hs hs1, own_eqn hl hl1]; exact ⟨fun u => by rw [u.1, u.2], fun u => own_ix_inj q q1 u⟩
  unfold own_e3
  by_cases u2 : s = s2 ∧ l = l2
  · rw [if_pos u2, if_pos (c2.mp u2)]
  · rw [if_neg u2, if_neg (mt c2.mpr u2)]
    by_cases u1 : s = s1 ∧ l = l1
    · rw [if_pos u1, if_pos (c1.mp u1)]
    · rw [if_neg u1, if_neg (mt c1.mpr u1)]
theorem own_e3_1 (s1 l1 s2 l2 t1 t2 : Int32) : own_e3 s1 l1 s2 l2 s1 l1 t1 t2 = own_e1 s1 l1 s2 l2 t1 t2 := by
  unfold own_e3 own_e1; split
  · rfl
  · exact if_pos ⟨rfl, rfl⟩
theorem own_e3_2 (s1 l1 s2 l2 t1 t2 : Int32) : own_e3 s1 l1 s2 l2 s2 l2 t1 t2 = t2 := if_pos ⟨rfl, rfl⟩
def own_flag (p : Int32) : Int32 := if p = 0 then 0 else 1
theorem own_flag_0 {p : Int32} (h : p = 0) : own_flag p = 0 := if_pos h
theorem own_flag_1 {p : Int32} (h : ¬ p = 0) : own_flag p = 1 := if_neg h
theorem own_e_tt {s1 l1 s2 l2 : Int32} (h : s1 = s2) (g : l1 = l2) (t1 t2 : Int32) : own_b s1 l1 s2 l2 = 1 ∧ own_e1 s1 l1 s2 l2 t1 t2 = t2 := ⟨if_pos ⟨h, g⟩, if_pos ⟨h, g⟩⟩
theorem own_e_f {s1 l1 s2 l2 : Int32} (h : ¬ (s1 = s2 ∧ l1 = l2)) (t1 t2 : Int32) : own_b s1 l1 s2 l2 = 0 ∧ own_e1 s1 l1 s2 l2 t1 t2 = t1 := ⟨if_neg h, if_neg h⟩
theorem own_e3_a {s1 l1 s2 l2 s3 l3 t1 t2 : Int32} (h : s3 = s2 ∧ l3 = l2) : own_e3 s1 l1 s2 l2 s3 l3 t1 t2 = t2 := if_pos h
theorem own_e3_b {s1 l1 s2 l2 s3 l3 t1 t2 : Int32} (h : ¬ (s3 = s2 ∧ l3 = l2)) (g : s3 = s1 ∧ l3 = l1) : own_e3 s1 l1 s2 l2 s3 l3 t1 t2 = t1 := (if_neg h).trans (if_pos g)
theorem own_e3_c {s1 l1 s2 l2 s3 l3 t1 t2 : Int32} (h : ¬ (s3 = s2 ∧ l3 = l2)) (g : ¬ (s3 = s1 ∧ l3 = l1)) : own_e3 s1 l1 s2 l2 s3 l3 t1 t2 = -1 := (if_neg h).trans (if_neg g)
theorem own_al (p : Int32) : ∃ n : Nat, 1 ≤ n ∧ n ≤ 8 ∧ ((p &&& (3 : Int32)) + (1 : Int32)).toInt = n := by
  have a := c_and p 3 (by decide)
  have b := c_iadd (p &&& 3) 1
  have r := rng32 ((p &&& 3) + 1)
  have z : (1 : Int32).toInt = 1 := rfl
  have z7 : (3 : Int32).toInt = 3 := rfl
  exact ⟨((p &&& (3 : Int32)) + (1 : Int32)).toInt.toNat, by omega, by omega, by omega⟩
theorem own_lo (p : Int32) : 0 ≤ ((p.toUInt32 >>> ((16 : Int32) &&& 31).toUInt32).toInt32).toInt := by
  have a := c_iushr p 16 16 (by decide) (by decide)
  omega
theorem pd_0 : parseMethodDescriptor "(I)V" = some ⟨[.int], none⟩ := by decide +kernel
theorem pd_1 : parseMethodDescriptor "()V" = some ⟨[], none⟩ := by decide +kernel
theorem pd_2 : parseMethodDescriptor "(Z)I" = some ⟨[.boolean], some .int⟩ := by decide +kernel
theorem pd_3 : parseMethodDescriptor "(II)I" = some ⟨[.int, .int], some .int⟩ := by decide +kernel
theorem pd_4 : parseMethodDescriptor "([ZI)[Z" = some ⟨[(.array .boolean), .int], some (.array .boolean)⟩ := by decide +kernel
theorem pd_5 : parseMethodDescriptor "(Ljava/lang/Object;ILjava/lang/Object;II)V" = some ⟨[(.object "java/lang/Object"), .int, (.object "java/lang/Object"), .int, .int], none⟩ := by decide +kernel
theorem pd_6 : parseMethodDescriptor "([II)[I" = some ⟨[(.array .int), .int], some (.array .int)⟩ := by decide +kernel
theorem pd_7 : parseMethodDescriptor "([IIII)V" = some ⟨[(.array .int), .int, .int, .int], none⟩ := by decide +kernel
theorem pd_8 : parseMethodDescriptor "(III)V" = some ⟨[.int, .int, .int], none⟩ := by decide +kernel
theorem d1_0 : decode prog_18_method_1_code 0 = .ok (.aload_n 0, 1) := by decide +kernel
theorem d1_1 : decode prog_18_method_1_code 1 = .ok (.invokespecial 3, 3) := by decide +kernel
theorem d1_4 : decode prog_18_method_1_code 4 = .ok (.aload_n 0, 1) := by decide +kernel
theorem d1_5 : decode prog_18_method_1_code 5 = .ok (.iconst 0, 1) := by decide +kernel
theorem d1_6 : decode prog_18_method_1_code 6 = .ok (.newarray .int, 2) := by decide +kernel
theorem d1_8 : decode prog_18_method_1_code 8 = .ok (.putfield 9, 3) := by decide +kernel
theorem d1_11 : decode prog_18_method_1_code 11 = .ok (.aload_n 0, 1) := by decide +kernel
theorem d1_12 : decode prog_18_method_1_code 12 = .ok (.iconst 0, 1) := by decide +kernel
theorem d1_13 : decode prog_18_method_1_code 13 = .ok (.newarray .boolean, 2) := by decide +kernel
theorem d1_15 : decode prog_18_method_1_code 15 = .ok (.putfield 15, 3) := by decide +kernel
theorem d1_18 : decode prog_18_method_1_code 18 = .ok (.aload_n 0, 1) := by decide +kernel
theorem d1_19 : decode prog_18_method_1_code 19 = .ok (.iload_n 1, 1) := by decide +kernel
theorem d1_20 : decode prog_18_method_1_code 20 = .ok (.putfield 19, 3) := by decide +kernel
theorem d1_23 : decode prog_18_method_1_code 23 = .ok (.return_, 1) := by decide +kernel
theorem pn_1 : plainName "com/example/boxwise/boxwise/Dfa$Builder" = true := by first | (simp [plainName, overriddenIn]; done) | decide +kernel
theorem d3_0 : decode prog_18_method_2_code 0 = .ok (.aload_n 0, 1) := by decide +kernel
theorem d3_1 : decode prog_18_method_2_code 1 = .ok (.getfield 23, 3) := by decide +kernel
theorem d3_4 : decode prog_18_method_2_code 4 = .ok (.aload_n 0, 1) := by decide +kernel
theorem d3_5 : decode prog_18_method_2_code 5 = .ok (.getfield 15, 3) := by decide +kernel
theorem d3_8 : decode prog_18_method_2_code 8 = .ok (.arraylength, 1) := by decide +kernel
theorem d3_9 : decode prog_18_method_2_code 9 = .ok (.if_icmp .ne 64, 3) := by decide +kernel
theorem d3_12 : decode prog_18_method_2_code 12 = .ok (.bipush 16, 2) := by decide +kernel
theorem d3_14 : decode prog_18_method_2_code 14 = .ok (.aload_n 0, 1) := by decide +kernel
theorem d3_15 : decode prog_18_method_2_code 15 = .ok (.getfield 23, 3) := by decide +kernel
theorem d3_18 : decode prog_18_method_2_code 18 = .ok (.iconst 2, 1) := by decide +kernel
theorem d3_19 : decode prog_18_method_2_code 19 = .ok (.imul, 1) := by decide +kernel
theorem d3_20 : decode prog_18_method_2_code 20 = .ok (.invokestatic 26, 3) := by decide +kernel
theorem d3_23 : decode prog_18_method_2_code 23 = .ok (.istore_n 2, 1) := by decide +kernel
theorem d3_24 : decode prog_18_method_2_code 24 = .ok (.aload_n 0, 1) := by decide +kernel
theorem d3_25 : decode prog_18_method_2_code 25 = .ok (.aload_n 0, 1) := by decide +kernel
theorem d3_26 : decode prog_18_method_2_code 26 = .ok (.getfield 15, 3) := by decide +kernel
theorem d3_29 : decode prog_18_method_2_code 29 = .ok (.iload_n 2, 1) := by decide +kernel
theorem d3_30 : decode prog_18_method_2_code 30 = .ok (.invokestatic 32, 3) := by decide +kernel
theorem d3_33 : decode prog_18_method_2_code 33 = .ok (.putfield 15, 3) := by decide +kernel
theorem d3_36 : decode prog_18_method_2_code 36 = .ok (.aload_n 0, 1) := by decide +kernel
theorem d3_37 : decode prog_18_method_2_code 37 = .ok (.getfield 9, 3) := by decide +kernel
theorem d3_40 : decode prog_18_method_2_code 40 = .ok (.arraylength, 1) := by decide +kernel
theorem d3_41 : decode prog_18_method_2_code 41 = .ok (.istore_n 3, 1) := by decide +kernel
theorem d3_42 : decode prog_18_method_2_code 42 = .ok (.aload_n 0, 1) := by decide +kernel
theorem d3_43 : decode prog_18_method_2_code 43 = .ok (.aload_n 0, 1) := by decide +kernel
theorem d3_44 : decode prog_18_method_2_code 44 = .ok (.getfield 9, 3) := by decide +kernel
theorem d3_47 : decode prog_18_method_2_code 47 = .ok (.iload_n 2, 1) := by decide +kernel
theorem d3_48 : decode prog_18_method_2_code 48 = .ok (.aload_n 0, 1) := by decide +kernel
theorem d3_49 : decode prog_18_method_2_code 49 = .ok (.getfield 19, 3) := by decide +kernel
theorem d3_52 : decode prog_18_method_2_code 52 = .ok (.imul, 1) := by decide +kernel
theorem d3_53 : decode prog_18_method_2_code 53 = .ok (.invokestatic 38, 3) := by decide +kernel
theorem d3_56 : decode prog_18_method_2_code 56 = .ok (.putfield 9, 3) := by decide +kernel
theorem d3_59 : decode prog_18_method_2_code 59 = .ok (.aload_n 0, 1) := by decide +kernel
theorem d3_60 : decode prog_18_method_2_code 60 = .ok (.getfield 9, 3) := by decide +kernel
theorem d3_63 : decode prog_18_method_2_code 63 = .ok (.iload_n 3, 1) := by decide +kernel
theorem d3_64 : decode prog_18_method_2_code 64 = .ok (.aload_n 0, 1) := by decide +kernel
theorem d3_65 : decode prog_18_method_2_code 65 = .ok (.getfield 9, 3) := by decide +kernel
theorem d3_68 : decode prog_18_method_2_code 68 = .ok (.arraylength, 1) := by decide +kernel
theorem d3_69 : decode prog_18_method_2_code 69 = .ok (.iconst (-1), 1) := by decide +kernel
theorem d3_70 : decode prog_18_method_2_code 70 = .ok (.invokestatic 41, 3) := by decide +kernel
theorem d3_73 : decode prog_18_method_2_code 73 = .ok (.aload_n 0, 1) := by decide +kernel
theorem d3_74 : decode prog_18_method_2_code 74 = .ok (.getfield 15, 3) := by decide +kernel
theorem d3_77 : decode prog_18_method_2_code 77 = .ok (.aload_n 0, 1) := by decide +kernel
theorem d3_78 : decode prog_18_method_2_code 78 = .ok (.getfield 23, 3) := by decide +kernel
theorem d3_81 : decode prog_18_method_2_code 81 = .ok (.iload_n 1, 1) := by decide +kernel
theorem d3_82 : decode prog_18_method_2_code 82 = .ok (.bastore, 1) := by decide +kernel
theorem d3_83 : decode prog_18_method_2_code 83 = .ok (.aload_n 0, 1) := by decide +kernel
theorem d3_84 : decode prog_18_method_2_code 84 = .ok (.dup, 1) := by decide +kernel
theorem d3_85 : decode prog_18_method_2_code 85 = .ok (.getfield 23, 3) := by decide +kernel
theorem d3_88 : decode prog_18_method_2_code 88 = .ok (.dup_x1, 1) := by decide +kernel
theorem d3_89 : decode prog_18_method_2_code 89 = .ok (.iconst 1, 1) := by decide +kernel
theorem d3_90 : decode prog_18_method_2_code 90 = .ok (.iadd, 1) := by decide +kernel
theorem d3_91 : decode prog_18_method_2_code 91 = .ok (.putfield 23, 3) := by decide +kernel
theorem d3_94 : decode prog_18_method_2_code 94 = .ok (.ireturn, 1) := by decide +kernel
theorem pn_3 : plainName "com/example/boxwise/boxwise/Dfa$Builder" = true := by first | (simp [plainName, overriddenIn]; done) | decide +kernel
theorem d4_0 : decode jdk_29_method_65_code 0 = .ok (.iload_n 0, 1) := by decide +kernel
theorem d4_1 : decode jdk_29_method_65_code 1 = .ok (.iload_n 1, 1) := by decide +kernel
theorem d4_2 : decode jdk_29_method_65_code 2 = .ok (.if_icmp .lt 7, 3) := by decide +kernel
theorem d4_5 : decode jdk_29_method_65_code 5 = .ok (.iload_n 0, 1) := by decide +kernel
theorem d4_6 : decode jdk_29_method_65_code 6 = .ok (.goto 4, 3) := by decide +kernel
theorem d4_9 : decode jdk_29_method_65_code 9 = .ok (.iload_n 1, 1) := by decide +kernel
theorem d4_10 : decode jdk_29_method_65_code 10 = .ok (.ireturn, 1) := by decide +kernel
theorem d5_0 : decode jdk_65_method_128_code 0 = .ok (.iload_n 1, 1) := by decide +kernel
theorem d5_1 : decode jdk_65_method_128_code 1 = .ok (.aload_n 0, 1) := by decide +kernel
theorem d5_2 : decode jdk_65_method_128_code 2 = .ok (.arraylength, 1) := by decide +kernel
theorem d5_3 : decode jdk_65_method_128_code 3 = .ok (.if_icmp .ne 11, 3) := by decide +kernel
theorem d5_6 : decode jdk_65_method_128_code 6 = .ok (.aload_n 0, 1) := by decide +kernel
theorem d5_7 : decode jdk_65_method_128_code 7 = .ok (.invokevirtual 331, 3) := by decide +kernel
theorem d5_10 : decode jdk_65_method_128_code 10 = .ok (.checkcast 332, 3) := by decide +kernel
theorem d5_13 : decode jdk_65_method_128_code 13 = .ok (.areturn, 1) := by decide +kernel
theorem d5_14 : decode jdk_65_method_128_code 14 = .ok (.iload_n 1, 1) := by decide +kernel
theorem d5_15 : decode jdk_65_method_128_code 15 = .ok (.newarray .boolean, 2) := by decide +kernel
theorem d5_17 : decode jdk_65_method_128_code 17 = .ok (.astore_n 2, 1) := by decide +kernel
theorem d5_18 : decode jdk_65_method_128_code 18 = .ok (.aload_n 0, 1) := by decide +kernel
theorem d5_19 : decode jdk_65_method_128_code 19 = .ok (.iconst 0, 1) := by decide +kernel
theorem d5_20 : decode jdk_65_method_128_code 20 = .ok (.aload_n 2, 1) := by decide +kernel
theorem d5_21 : decode jdk_65_method_128_code 21 = .ok (.iconst 0, 1) := by decide +kernel
theorem d5_22 : decode jdk_65_method_128_code 22 = .ok (.aload_n 0, 1) := by decide +kernel
theorem d5_23 : decode jdk_65_method_128_code 23 = .ok (.arraylength, 1) := by decide +kernel
theorem d5_24 : decode jdk_65_method_128_code 24 = .ok (.iload_n 1, 1) := by decide +kernel
theorem d5_25 : decode jdk_65_method_128_code 25 = .ok (.invokestatic 304, 3) := by decide +kernel
theorem d5_28 : decode jdk_65_method_128_code 28 = .ok (.invokestatic 150, 3) := by decide +kernel
theorem d5_31 : decode jdk_65_method_128_code 31 = .ok (.aload_n 2, 1) := by decide +kernel
theorem d5_32 : decode jdk_65_method_128_code 32 = .ok (.areturn, 1) := by decide +kernel
theorem pn_5 : plainName "java/util/Arrays" = true := by first | (simp [plainName, overriddenIn]; done) | decide +kernel
theorem d6_0 : decode jdk_29_method_69_code 0 = .ok (.iload_n 0, 1) := by decide +kernel
theorem d6_1 : decode jdk_29_method_69_code 1 = .ok (.iload_n 1, 1) := by decide +kernel
theorem d6_2 : decode jdk_29_method_69_code 2 = .ok (.if_icmp .gt 7, 3) := by decide +kernel
theorem d6_5 : decode jdk_29_method_69_code 5 = .ok (.iload_n 0, 1) := by decide +kernel
theorem d6_6 : decode jdk_29_method_69_code 6 = .ok (.goto 4, 3) := by decide +kernel
theorem d6_9 : decode jdk_29_method_69_code 9 = .ok (.iload_n 1, 1) := by decide +kernel
theorem d6_10 : decode jdk_29_method_69_code 10 = .ok (.ireturn, 1) := by decide +kernel
theorem d7_0 : decode jdk_65_method_123_code 0 = .ok (.iload_n 1, 1) := by decide +kernel
theorem d7_1 : decode jdk_65_method_123_code 1 = .ok (.aload_n 0, 1) := by decide +kernel
theorem d7_2 : decode jdk_65_method_123_code 2 = .ok (.arraylength, 1) := by decide +kernel
theorem d7_3 : decode jdk_65_method_123_code 3 = .ok (.if_icmp .ne 11, 3) := by decide +kernel
theorem d7_6 : decode jdk_65_method_123_code 6 = .ok (.aload_n 0, 1) := by decide +kernel
theorem d7_7 : decode jdk_65_method_123_code 7 = .ok (.invokevirtual 316, 3) := by decide +kernel
theorem d7_10 : decode jdk_65_method_123_code 10 = .ok (.checkcast 317, 3) := by decide +kernel
theorem d7_13 : decode jdk_65_method_123_code 13 = .ok (.areturn, 1) := by decide +kernel
theorem d7_14 : decode jdk_65_method_123_code 14 = .ok (.iload_n 1, 1) := by decide +kernel
theorem d7_15 : decode jdk_65_method_123_code 15 = .ok (.newarray .int, 2) := by decide +kernel
theorem d7_17 : decode jdk_65_method_123_code 17 = .ok (.astore_n 2, 1) := by decide +kernel
theorem d7_18 : decode jdk_65_method_123_code 18 = .ok (.aload_n 0, 1) := by decide +kernel
theorem d7_19 : decode jdk_65_method_123_code 19 = .ok (.iconst 0, 1) := by decide +kernel
theorem d7_20 : decode jdk_65_method_123_code 20 = .ok (.aload_n 2, 1) := by decide +kernel
theorem d7_21 : decode jdk_65_method_123_code 21 = .ok (.iconst 0, 1) := by decide +kernel
theorem d7_22 : decode jdk_65_method_123_code 22 = .ok (.aload_n 0, 1) := by decide +kernel
theorem d7_23 : decode jdk_65_method_123_code 23 = .ok (.arraylength, 1) := by decide +kernel
theorem d7_24 : decode jdk_65_method_123_code 24 = .ok (.iload_n 1, 1) := by decide +kernel
theorem d7_25 : decode jdk_65_method_123_code 25 = .ok (.invokestatic 304, 3) := by decide +kernel
theorem d7_28 : decode jdk_65_method_123_code 28 = .ok (.invokestatic 150, 3) := by decide +kernel
theorem d7_31 : decode jdk_65_method_123_code 31 = .ok (.aload_n 2, 1) := by decide +kernel
theorem d7_32 : decode jdk_65_method_123_code 32 = .ok (.areturn, 1) := by decide +kernel
theorem pn_7 : plainName "java/util/Arrays" = true := by first | (simp [plainName, overriddenIn]; done) | decide +kernel
theorem d8_0 : decode jdk_65_method_104_code 0 = .ok (.aload_n 0, 1) := by decide +kernel
theorem d8_1 : decode jdk_65_method_104_code 1 = .ok (.arraylength, 1) := by decide +kernel
theorem d8_2 : decode jdk_65_method_104_code 2 = .ok (.iload_n 1, 1) := by decide +kernel
theorem d8_3 : decode jdk_65_method_104_code 3 = .ok (.iload_n 2, 1) := by decide +kernel
theorem d8_4 : decode jdk_65_method_104_code 4 = .ok (.invokestatic 13, 3) := by decide +kernel
theorem d8_7 : decode jdk_65_method_104_code 7 = .ok (.iload_n 1, 1) := by decide +kernel
theorem d8_8 : decode jdk_65_method_104_code 8 = .ok (.istore 4, 2) := by decide +kernel
theorem d8_10 : decode jdk_65_method_104_code 10 = .ok (.iload 4, 2) := by decide +kernel
theorem d8_12 : decode jdk_65_method_104_code 12 = .ok (.iload_n 2, 1) := by decide +kernel
theorem d8_13 : decode jdk_65_method_104_code 13 = .ok (.if_icmp .ge 14, 3) := by decide +kernel
theorem d8_16 : decode jdk_65_method_104_code 16 = .ok (.aload_n 0, 1) := by decide +kernel
theorem d8_17 : decode jdk_65_method_104_code 17 = .ok (.iload 4, 2) := by decide +kernel
theorem d8_19 : decode jdk_65_method_104_code 19 = .ok (.iload_n 3, 1) := by decide +kernel
theorem d8_20 : decode jdk_65_method_104_code 20 = .ok (.iastore, 1) := by decide +kernel
theorem d8_21 : decode jdk_65_method_104_code 21 = .ok (.iinc 4 1, 3) := by decide +kernel
theorem d8_24 : decode jdk_65_method_104_code 24 = .ok (.goto (-14), 3) := by decide +kernel
theorem d8_27 : decode jdk_65_method_104_code 27 = .ok (.return_, 1) := by decide +kernel
theorem pn_8 : plainName "java/util/Arrays" = true := by first | (simp [plainName, overriddenIn]; done) | decide +kernel
theorem d9_0 : decode jdk_65_method_30_code 0 = .ok (.iload_n 1, 1) := by decide +kernel
theorem d9_1 : decode jdk_65_method_30_code 1 = .ok (.iload_n 2, 1) := by decide +kernel
theorem d9_2 : decode jdk_65_method_30_code 2 = .ok (.if_icmp .le 44, 3) := by decide +kernel
theorem d9_5 : decode jdk_65_method_30_code 5 = .ok (.new 43, 3) := by decide +kernel
theorem d9_8 : decode jdk_65_method_30_code 8 = .ok (.dup, 1) := by decide +kernel
theorem d9_9 : decode jdk_65_method_30_code 9 = .ok (.new 45, 3) := by decide +kernel
theorem d9_12 : decode jdk_65_method_30_code 12 = .ok (.dup, 1) := by decide +kernel
theorem d9_13 : decode jdk_65_method_30_code 13 = .ok (.invokespecial 47, 3) := by decide +kernel
theorem d9_16 : decode jdk_65_method_30_code 16 = .ok (.ldc 48, 2) := by decide +kernel
theorem d9_18 : decode jdk_65_method_30_code 18 = .ok (.invokevirtual 50, 3) := by decide +kernel
theorem d9_21 : decode jdk_65_method_30_code 21 = .ok (.iload_n 1, 1) := by decide +kernel
theorem d9_22 : decode jdk_65_method_30_code 22 = .ok (.invokevirtual 54, 3) := by decide +kernel
theorem d9_25 : decode jdk_65_method_30_code 25 = .ok (.ldc 57, 2) := by decide +kernel
theorem d9_27 : decode jdk_65_method_30_code 27 = .ok (.invokevirtual 50, 3) := by decide +kernel
theorem d9_30 : decode jdk_65_method_30_code 30 = .ok (.iload_n 2, 1) := by decide +kernel
theorem d9_31 : decode jdk_65_method_30_code 31 = .ok (.invokevirtual 54, 3) := by decide +kernel
theorem d9_34 : decode jdk_65_method_30_code 34 = .ok (.ldc 59, 2) := by decide +kernel
theorem d9_36 : decode jdk_65_method_30_code 36 = .ok (.invokevirtual 50, 3) := by decide +kernel
theorem d9_39 : decode jdk_65_method_30_code 39 = .ok (.invokevirtual 61, 3) := by decide +kernel
theorem d9_42 : decode jdk_65_method_30_code 42 = .ok (.invokespecial 65, 3) := by decide +kernel
theorem d9_45 : decode jdk_65_method_30_code 45 = .ok (.athrow, 1) := by decide +kernel
theorem d9_46 : decode jdk_65_method_30_code 46 = .ok (.iload_n 1, 1) := by decide +kernel
theorem d9_47 : decode jdk_65_method_30_code 47 = .ok (.ifCond .ge 12, 3) := by decide +kernel
theorem d9_50 : decode jdk_65_method_30_code 50 = .ok (.new 68, 3) := by decide +kernel
theorem d9_53 : decode jdk_65_method_30_code 53 = .ok (.dup, 1) := by decide +kernel
theorem d9_54 : decode jdk_65_method_30_code 54 = .ok (.iload_n 1, 1) := by decide +kernel
theorem d9_55 : decode jdk_65_method_30_code 55 = .ok (.invokespecial 70, 3) := by decide +kernel
theorem d9_58 : decode jdk_65_method_30_code 58 = .ok (.athrow, 1) := by decide +kernel
theorem d9_59 : decode jdk_65_method_30_code 59 = .ok (.iload_n 2, 1) := by decide +kernel
theorem d9_60 : decode jdk_65_method_30_code 60 = .ok (.iload_n 0, 1) := by decide +kernel
theorem d9_61 : decode jdk_65_method_30_code 61 = .ok (.if_icmp .le 12, 3) := by decide +kernel
theorem d9_64 : decode jdk_65_method_30_code 64 = .ok (.new 68, 3) := by decide +kernel
theorem d9_67 : decode jdk_65_method_30_code 67 = .ok (.dup, 1) := by decide +kernel
theorem d9_68 : decode jdk_65_method_30_code 68 = .ok (.iload_n 2, 1) := by decide +kernel
theorem d9_69 : decode jdk_65_method_30_code 69 = .ok (.invokespecial 70, 3) := by decide +kernel
theorem d9_72 : decode jdk_65_method_30_code 72 = .ok (.athrow, 1) := by decide +kernel
theorem d9_73 : decode jdk_65_method_30_code 73 = .ok (.return_, 1) := by decide +kernel
theorem pn_9 : plainName "java/util/Arrays" = true := by first | (simp [plainName, overriddenIn]; done) | decide +kernel
theorem d10_0 : decode prog_18_method_5_code 0 = .ok (.aload_n 0, 1) := by decide +kernel
theorem d10_1 : decode prog_18_method_5_code 1 = .ok (.getfield 9, 3) := by decide +kernel
theorem d10_4 : decode prog_18_method_5_code 4 = .ok (.iload_n 1, 1) := by decide +kernel
theorem d10_5 : decode prog_18_method_5_code 5 = .ok (.aload_n 0, 1) := by decide +kernel
theorem d10_6 : decode prog_18_method_5_code 6 = .ok (.getfield 19, 3) := by decide +kernel
theorem d10_9 : decode prog_18_method_5_code 9 = .ok (.imul, 1) := by decide +kernel
theorem d10_10 : decode prog_18_method_5_code 10 = .ok (.iload_n 2, 1) := by decide +kernel
theorem d10_11 : decode prog_18_method_5_code 11 = .ok (.iadd, 1) := by decide +kernel
theorem d10_12 : decode prog_18_method_5_code 12 = .ok (.iload_n 3, 1) := by decide +kernel
theorem d10_13 : decode prog_18_method_5_code 13 = .ok (.iastore, 1) := by decide +kernel
theorem d10_14 : decode prog_18_method_5_code 14 = .ok (.return_, 1) := by decide +kernel
theorem pn_10 : plainName "com/example/boxwise/boxwise/Dfa$Builder" = true := by first | (simp [plainName, overriddenIn]; done) | decide +kernel
theorem d11_0 : decode prog_18_method_4_code 0 = .ok (.aload_n 0, 1) := by decide +kernel
theorem d11_1 : decode prog_18_method_4_code 1 = .ok (.getfield 9, 3) := by decide +kernel
theorem d11_4 : decode prog_18_method_4_code 4 = .ok (.iload_n 1, 1) := by decide +kernel
theorem d11_5 : decode prog_18_method_4_code 5 = .ok (.aload_n 0, 1) := by decide +kernel
theorem d11_6 : decode prog_18_method_4_code 6 = .ok (.getfield 19, 3) := by decide +kernel
theorem d11_9 : decode prog_18_method_4_code 9 = .ok (.imul, 1) := by decide +kernel
theorem d11_10 : decode prog_18_method_4_code 10 = .ok (.iload_n 2, 1) := by decide +kernel
theorem d11_11 : decode prog_18_method_4_code 11 = .ok (.iadd, 1) := by decide +kernel
theorem d11_12 : decode prog_18_method_4_code 12 = .ok (.iaload, 1) := by decide +kernel
theorem d11_13 : decode prog_18_method_4_code 13 = .ok (.ireturn, 1) := by decide +kernel
theorem pn_11 : plainName "com/example/boxwise/boxwise/Dfa$Builder" = true := by first | (simp [plainName, overriddenIn]; done) | decide +kernel
theorem pn_0 : plainName "com/example/boxwise/boxwise/BuilderSetNextPinLaw" = true := by first | (simp [plainName, overriddenIn]; done) | decide +kernel
theorem ef_rm4 (m : MethodId) (x0 : Int32) (x1 : Int32) : entryFrame m #[(.int x0), (.int x1)] 2 = mkF m 0 #[.val (.int x0), .val (.int x1)] [] := by first | (simp [entryFrame, mkF, argsToLocals, Value.category]; done) | rfl
def Q4 (Z : State) (p1 : Int32) (p2 : Int32) (h0 : Heap) (n0 : Nat) (v : Option Value) (h : Heap) (L : List Loc) : Prop := v = some (.int (own_max p1 p2)) ∧ Fr n0 L ∧ h = h0
set_option maxRecDepth 65536 in
set_option maxHeartbeats 40000000 in
theorem rm4 (l : Launch) (Z : State) (a0 : Array Value) (hw : ∀ d ∈ tables_1, d.before a0 Z = true) (ws : List Jvm.Cond) (p1 : Int32) (p2 : Int32) (h0 : Heap) (n0 : Nat) (Z0 : n0 ≤ h0.size) :
    MetFree l (⟨"java/lang/Math", "max", "(II)I"⟩ : MethodName) (head1 (Jvm.Cond.code (⟨"java/lang/Math", "max", "(II)I"⟩ : MethodName) jdk_29_method_65_code 2 (some .int) :: ws) ({ frames := 0, cells := 0, slots := 0, locals := 0 } : Room)) (fun a U => a = #[(.int p1), (.int p2)] ∧ Z.Warmed39 U.vm ∧ U.heap = h0) (fun _ _ _ _ _ => True) (fun _ U o U' => ∃ v L, o = .returned v ∧ Q4 Z p1 p2 h0 n0 v U'.heap L ∧ FrameEnd U o U' L ({ frames := 0, cells := 0, slots := 0, locals := 0 } : Room).cells ({ frames := 0, cells := 0, slots := 0, locals := 0 } : Room).slots) := by
  refine MetFree.of_bodySF (Jvm.Free.JP.mathPlain rfl (by decide +kernel)) hisR ?_
  intro p e s m args below meth c s₁ Bd hml0 hP hK
  obtain ⟨rfl, hZ, hh⟩ := hP
  have hx := Bd.exec
  have hby := Bd.bytes
  have hml : c.maxLocals = 2 := hml0
  have hown : s.vm.findClass "java/lang/Math" = some m.cls := findClass_of_methodNamed Bd.named
  have hnm := (name_of_methodNamed Bd.named Bd.method).1
  have X0 : Stand p l e ({ frames := 0, cells := 0, slots := 0, locals := 0 } : Room) s m #[(.int p1), (.int p2)] below meth c s₁ [] 0 0 := Stand.of_body Bd
  have e0 : s₁.heap = h0 := by rw [← hh, Bd.state]; rfl
  have N0 := Fr.nil n0
  have a0s : ∀ t, Steps p.tables e below (s₁.setTop (mkF m 0 #[.val (.int p1), .val (.int p2)] [])) t → Steps p.tables e below (s₁.setTop (entryFrame m #[(.int p1), (.int p2)] 2)) t := fun t k => castTop (ef_rm4 m p1 p2) k
  have ac1 : ∀ t, Steps p.tables e below (s₁.setTop (mkF m 2 #[.val (.int p1), .val (.int p2)] [(.int p2), (.int p1)])) t → Steps p.tables e below (s₁.setTop (entryFrame m #[(.int p1), (.int p2)] 2)) t := fun t k => a0s t (by
      show Steps p.tables e below (s₁.setTop (mkF m 0 #[.val (.int p1), .val (.int p2)] [])) _
      refine XS.iloadN X0.here hx rfl (hb hby d4_0) rfl ?_
      show Steps p.tables e below (s₁.setTop (mkF m 1 #[.val (.int p1), .val (.int p2)] [(.int p1)])) _
      refine XS.iloadN X0.here hx rfl (hb hby d4_1) rfl ?_
      exact k)
  by_cases hm : p1 < p2
  ·
    have ac2 : ∀ t, Steps p.tables e below (s₁.setTop (mkF m 10 #[.val (.int p1), .val (.int p2)] [(.int p2)])) t → Steps p.tables e below (s₁.setTop (entryFrame m #[(.int p1), (.int p2)] 2)) t := fun t k => ac1 t (by
        show Steps p.tables e below (s₁.setTop (mkF m 2 #[.val (.int p1), .val (.int p2)] [(.int p2), (.int p1)])) _
        refine XS.icmpYes X0.here hx rfl (pc0 := 2) (pc' := 9) rfl (hb hby d4_2) rfl (tlt hm).1 (by decide) (by decide) ?_
        show Steps p.tables e below (s₁.setTop (mkF m 9 #[.val (.int p1), .val (.int p2)] [])) _
        refine XS.iloadN X0.here hx rfl (hb hby d4_9) rfl ?_
        exact k)
    obtain ⟨fs, hr, hrun, hended, hW, hsame⟩ := X0.leave (v := some (.int p2)) (fun h => by rw [Bd.returns] at h; cases h) (BodyLoose.notSynchronized Bd)
    refine ⟨_, _, ac2 _ ?_, hrun, hended, _, _, rfl, ?_, ⟨_, rfl⟩, hW, hsame.mono (by decide) (by decide)⟩
    · show Steps p.tables e below (s₁.setTop (mkF m 10 #[.val (.int p1), .val (.int p2)] [(.int p2)])) _
      exact retI X0 hx Bd.returns (hb hby d4_10) hr
    · show Q4 Z p1 p2 h0 n0 _ s₁.heap _
      rw [e0]
      exact ⟨(congrArg (fun z => some (Value.int z)) (own_max_t hm)).symm, N0, rfl⟩
  ·
    have ac3 : ∀ t, Steps p.tables e below (s₁.setTop (mkF m 10 #[.val (.int p1), .val (.int p2)] [(.int p1)])) t → Steps p.tables e below (s₁.setTop (entryFrame m #[(.int p1), (.int p2)] 2)) t := fun t k => ac1 t (by
        show Steps p.tables e below (s₁.setTop (mkF m 2 #[.val (.int p1), .val (.int p2)] [(.int p2), (.int p1)])) _
        refine XS.icmpNo X0.here hx rfl (hb hby d4_2) rfl (flt hm).1 ?_
        show Steps p.tables e below (s₁.setTop (mkF m 5 #[.val (.int p1), .val (.int p2)] [])) _
        refine XS.iloadN X0.here hx rfl (hb hby d4_5) rfl ?_
        show Steps p.tables e below (s₁.setTop (mkF m 6 #[.val (.int p1), .val (.int p2)] [(.int p1)])) _
        refine XS.goto X0.here hx rfl (pc0 := 6) (pc' := 10) rfl (hb hby d4_6) (by decide) (by decide) ?_
        exact k)
    obtain ⟨fs, hr, hrun, hended, hW, hsame⟩ := X0.leave (v := some (.int p1)) (fun h => by rw [Bd.returns] at h; cases h) (BodyLoose.notSynchronized Bd)
    refine ⟨_, _, ac3 _ ?_, hrun, hended, _, _, rfl, ?_, ⟨_, rfl⟩, hW, hsame.mono (by decide) (by decide)⟩
    · show Steps p.tables e below (s₁.setTop (mkF m 10 #[.val (.int p1), .val (.int p2)] [(.int p1)])) _
      exact retI X0 hx Bd.returns (hb hby d4_10) hr
    · show Q4 Z p1 p2 h0 n0 _ s₁.heap _
      rw [e0]
      exact ⟨(congrArg (fun z => some (Value.int z)) (own_max_f hm)).symm, N0, rfl⟩
theorem ef_rm6 (m : MethodId) (x0 : Int32) (x1 : Int32) : entryFrame m #[(.int x0), (.int x1)] 2 = mkF m 0 #[.val (.int x0), .val (.int x1)] [] := by first | (simp [entryFrame, mkF, argsToLocals, Value.category]; done) | rfl
def Q6 (Z : State) (p1 : Int32) (p2 : Int32) (h0 : Heap) (n0 : Nat) (v : Option Value) (h : Heap) (L : List Loc) : Prop := v = some (.int (own_min p1 p2)) ∧ Fr n0 L ∧ h = h0
set_option maxRecDepth 65536 in
set_option maxHeartbeats 40000000 in
theorem rm6 (l : Launch) (Z : State) (a0 : Array Value) (hw : ∀ d ∈ tables_1, d.before a0 Z = true) (ws : List Jvm.Cond) (p1 : Int32) (p2 : Int32) (h0 : Heap) (n0 : Nat) (Z0 : n0 ≤ h0.size) :
    MetFree l (⟨"java/lang/Math", "min", "(II)I"⟩ : MethodName) (head1 (Jvm.Cond.code (⟨"java/lang/Math", "min", "(II)I"⟩ : MethodName) jdk_29_method_69_code 2 (some .int) :: ws) ({ frames := 0, cells := 0, slots := 0, locals := 0 } : Room)) (fun a U => a = #[(.int p1), (.int p2)] ∧ Z.Warmed39 U.vm ∧ U.heap = h0) (fun _ _ _ _ _ => True) (fun _ U o U' => ∃ v L, o = .returned v ∧ Q6 Z p1 p2 h0 n0 v U'.heap L ∧ FrameEnd U o U' L ({ frames := 0, cells := 0, slots := 0, locals := 0 } : Room).cells ({ frames := 0, cells := 0, slots := 0, locals := 0 } : Room).slots) := by
  refine MetFree.of_bodySF (Jvm.Free.JP.mathPlain rfl (by decide +kernel)) hisR ?_
  intro p e s m args below meth c s₁ Bd hml0 hP hK
  obtain ⟨rfl, hZ, hh⟩ := hP
  have hx := Bd.exec
  have hby := Bd.bytes
  have hml : c.maxLocals = 2 := hml0
  have hown : s.vm.findClass "java/lang/Math" = some m.cls := findClass_of_methodNamed Bd.named
  have hnm := (name_of_methodNamed Bd.named Bd.method).1
  have X0 : Stand p l e ({ frames := 0, cells := 0, slots := 0, locals := 0 } : Room) s m #[(.int p1), (.int p2)] below meth c s₁ [] 0 0 := Stand.of_body Bd
  have e0 : s₁.heap = h0 := by rw [← hh, Bd.state]; rfl
  have N0 := Fr.nil n0
  have a0s : ∀ t, Steps p.tables e below (s₁.setTop (mkF m 0 #[.val (.int p1), .val (.int p2)] [])) t → Steps p.tables e below (s₁.setTop (entryFrame m #[(.int p1), (.int p2)] 2)) t := fun t k => castTop (ef_rm6 m p1 p2) k
  have ac1 : ∀ t, Steps p.tables e below (s₁.setTop (mkF m 2 #[.val (.int p1), .val (.int p2)] [(.int p2), (.int p1)])) t → Steps p.tables e below (s₁.setTop (entryFrame m #[(.int p1), (.int p2)] 2)) t := fun t k => a0s t (by
      show Steps p.tables e below (s₁.setTop (mkF m 0 #[.val (.int p1), .val (.int p2)] [])) _
      refine XS.iloadN X0.here hx rfl (hb hby d6_0) rfl ?_
      show Steps p.tables e below (s₁.setTop (mkF m 1 #[.val (.int p1), .val (.int p2)] [(.int p1)])) _
      refine XS.iloadN X0.here hx rfl (hb hby d6_1) rfl ?_
      exact k)
  by_cases hm : p2 < p1
  ·
    have ac2 : ∀ t, Steps p.tables e below (s₁.setTop (mkF m 10 #[.val (.int p1), .val (.int p2)] [(.int p2)])) t → Steps p.tables e below (s₁.setTop (entryFrame m #[(.int p1), (.int p2)] 2)) t := fun t k => ac1 t (by
        show Steps p.tables e below (s₁.setTop (mkF m 2 #[.val (.int p1), .val (.int p2)] [(.int p2), (.int p1)])) _
        refine XS.icmpYes X0.here hx rfl (pc0 := 2) (pc' := 9) rfl (hb hby d6_2) rfl (tlt hm).2.2.1 (by decide) (by decide) ?_
        show Steps p.tables e below (s₁.setTop (mkF m 9 #[.val (.int p1), .val (.int p2)] [])) _
        refine XS.iloadN X0.here hx rfl (hb hby d6_9) rfl ?_
        exact k)
    obtain ⟨fs, hr, hrun, hended, hW, hsame⟩ := X0.leave (v := some (.int p2)) (fun h => by rw [Bd.returns] at h; cases h) (BodyLoose.notSynchronized Bd)
    refine ⟨_, _, ac2 _ ?_, hrun, hended, _, _, rfl, ?_, ⟨_, rfl⟩, hW, hsame.mono (by decide) (by decide)⟩
    · show Steps p.tables e below (s₁.setTop (mkF m 10 #[.val (.int p1), .val (.int p2)] [(.int p2)])) _
      exact retI X0 hx Bd.returns (hb hby d6_10) hr
    · show Q6 Z p1 p2 h0 n0 _ s₁.heap _
      rw [e0]
      exact ⟨(congrArg (fun z => some (Value.int z)) (own_min_t hm)).symm, N0, rfl⟩
  ·
    have ac3 : ∀ t, Steps p.tables e below (s₁.setTop (mkF m 10 #[.val (.int p1), .val (.int p2)] [(.int p1)])) t → Steps p.tables e below (s₁.setTop (entryFrame m #[(.int p1), (.int p2)] 2)) t := fun t k => ac1 t (by
        show Steps p.tables e below (s₁.setTop (mkF m 2 #[.val (.int p1), .val (.int p2)] [(.int p2), (.int p1)])) _
        refine XS.icmpNo X0.here hx rfl (hb hby d6_2) rfl (flt hm).2.2.1 ?_
        show Steps p.tables e below (s₁.setTop (mkF m 5 #[.val (.int p1), .val (.int p2)] [])) _
        refine XS.iloadN X0.here hx rfl (hb hby d6_5) rfl ?_
        show Steps p.tables e below (s₁.setTop (mkF m 6 #[.val (.int p1), .val (.int p2)] [(.int p1)])) _
        refine XS.goto X0.here hx rfl (pc0 := 6) (pc' := 10) rfl (hb hby d6_6) (by decide) (by decide) ?_
        exact k)
    obtain ⟨fs, hr, hrun, hended, hW, hsame⟩ := X0.leave (v := some (.int p1)) (fun h => by rw [Bd.returns] at h; cases h) (BodyLoose.notSynchronized Bd)
    refine ⟨_, _, ac3 _ ?_, hrun, hended, _, _, rfl, ?_, ⟨_, rfl⟩, hW, hsame.mono (by decide) (by decide)⟩
    · show Steps p.tables e below (s₁.setTop (mkF m 10 #[.val (.int p1), .val (.int p2)] [(.int p1)])) _
      exact retI X0 hx Bd.returns (hb hby d6_10) hr
    · show Q6 Z p1 p2 h0 n0 _ s₁.heap _
      rw [e0]
      exact ⟨(congrArg (fun z => some (Value.int z)) (own_min_f hm)).symm, N0, rfl⟩
theorem ef_rm9 (m : MethodId) (x0 : Int32) (x1 : Int32) (x2 : Int32) : entryFrame m #[(.int x0), (.int x1), (.int x2)] 3 = mkF m 0 #[.val (.int x0), .val (.int x1), .val (.int x2)] [] := by first | (simp [entryFrame, mkF, argsToLocals, Value.category]; done) | rfl
def Q9 (Z : State) (p1 : Int32) (p2 : Int32) (p3 : Int32) (h0 : Heap) (n0 : Nat) (v : Option Value) (h : Heap) (L : List Loc) : Prop := v = none ∧ Fr n0 L ∧ h = h0
set_option maxRecDepth 65536 in
set_option maxHeartbeats 40000000 in
theorem rm9 (l : Launch) (Z : State) (a0 : Array Value) (hw : ∀ d ∈ tables_1, d.before a0 Z = true) (ws : List Jvm.Cond) (p1 : Int32) (p2 : Int32) (p3 : Int32) (h0 : Heap) (n0 : Nat) (Z0 : n0 ≤ h0.size) (h12 : ¬ p3 < p2) (h2 : ¬ p2 < 0) (h3 : ¬ p1 < p3) :
    MetFree l (⟨"java/util/Arrays", "rangeCheck", "(III)V"⟩ : MethodName) (head1 (Jvm.Cond.code (⟨"java/util/Arrays", "rangeCheck", "(III)V"⟩ : MethodName) jdk_65_method_30_code 3 none :: ws) ({ frames := 0, cells := 0, slots := 0, locals := 0 } : Room)) (fun a U => a = #[(.int p1), (.int p2), (.int p3)] ∧ Z.Warmed39 U.vm ∧ U.heap = h0) (fun _ _ _ _ _ => True) (fun _ U o U' => ∃ v L, o = .returned v ∧ Q9 Z p1 p2 p3 h0 n0 v U'.heap L ∧ FrameEnd U o U' L ({ frames := 0, cells := 0, slots := 0, locals := 0 } : Room).cells ({ frames := 0, cells := 0, slots := 0, locals := 0 } : Room).slots) := by
  refine MetFree.of_bodySF (plainFor_of_name pn_9) hisR ?_
  intro p e s m args below meth c s₁ Bd hml0 hP hK
  obtain ⟨rfl, hZ, hh⟩ := hP
  have hx := Bd.exec
  have hby := Bd.bytes
  have hml : c.maxLocals = 3 := hml0
  have hown : s.vm.findClass "java/util/Arrays" = some m.cls := findClass_of_methodNamed Bd.named
  have hnm := (name_of_methodNamed Bd.named Bd.method).1
  have X0 : Stand p l e ({ frames := 0, cells := 0, slots := 0, locals := 0 } : Room) s m #[(.int p1), (.int p2), (.int p3)] below meth c s₁ [] 0 0 := Stand.of_body Bd
  have e0 : s₁.heap = h0 := by rw [← hh, Bd.state]; rfl
  have N0 := Fr.nil n0
  have a0s : ∀ t, Steps p.tables e below (s₁.setTop (mkF m 0 #[.val (.int p1), .val (.int p2), .val (.int p3)] [])) t → Steps p.tables e below (s₁.setTop (entryFrame m #[(.int p1), (.int p2), (.int p3)] 3)) t := fun t k => castTop (ef_rm9 m p1 p2 p3) k
  have ac1 : ∀ t, Steps p.tables e below (s₁.setTop (mkF m 73 #[.val (.int p1), .val (.int p2), .val (.int p3)] [])) t → Steps p.tables e below (s₁.setTop (entryFrame m #[(.int p1), (.int p2), (.int p3)] 3)) t := fun t k => a0s t (by
      show Steps p.tables e below (s₁.setTop (mkF m 0 #[.val (.int p1), .val (.int p2), .val (.int p3)] [])) _
      refine XS.iloadN X0.here hx rfl (hb hby d9_0) rfl ?_
      show Steps p.tables e below (s₁.setTop (mkF m 1 #[.val (.int p1), .val (.int p2), .val (.int p3)] [(.int p2)])) _
      refine XS.iloadN X0.here hx rfl (hb hby d9_1) rfl ?_
      show Steps p.tables e below (s₁.setTop (mkF m 2 #[.val (.int p1), .val (.int p2), .val (.int p3)] [(.int p3), (.int p2)])) _
      refine XS.icmpYes X0.here hx rfl (pc0 := 2) (pc' := 46) rfl (hb hby d9_2) rfl (flt h12).2.2.2 (by decide) (by decide) ?_
      show Steps p.tables e below (s₁.setTop (mkF m 46 #[.val (.int p1), .val (.int p2), .val (.int p3)] [])) _
      refine XS.iloadN X0.here hx rfl (hb hby d9_46) rfl ?_
      show Steps p.tables e below (s₁.setTop (mkF m 47 #[.val (.int p1), .val (.int p2), .val (.int p3)] [(.int p2)])) _
      refine XS.ifYes X0.here hx rfl (pc0 := 47) (pc' := 59) rfl (hb hby d9_47) rfl ((if0 _ _).trans (flt h2).2.1) (by decide) (by decide) ?_
      show Steps p.tables e below (s₁.setTop (mkF m 59 #[.val (.int p1), .val (.int p2), .val (.int p3)] [])) _
      refine XS.iloadN X0.here hx rfl (hb hby d9_59) rfl ?_
      show Steps p.tables e below (s₁.setTop (mkF m 60 #[.val (.int p1), .val (.int p2), .val (.int p3)] [(.int p3)])) _
      refine XS.iloadN X0.here hx rfl (hb hby d9_60) rfl ?_
      show Steps p.tables e below (s₁.setTop (mkF m 61 #[.val (.int p1), .val (.int p2), .val (.int p3)] [(.int p1), (.int p3)])) _
      refine XS.icmpYes X0.here hx rfl (pc0 := 61) (pc' := 73) rfl (hb hby d9_61) rfl (flt h3).2.2.2 (by decide) (by decide) ?_
      exact k)
  obtain ⟨fs, hr, hrun, hended, hW, hsame⟩ := X0.leave (v := none) (fun _ => rfl) (BodyLoose.notSynchronized Bd)
  refine ⟨_, _, ac1 _ ?_, hrun, hended, _, _, rfl, ?_, ⟨_, rfl⟩, hW, hsame.mono (by decide) (by decide)⟩
  · show Steps p.tables e below (s₁.setTop (mkF m 73 #[.val (.int p1), .val (.int p2), .val (.int p3)] [])) _
    exact X0.returnOut hx Bd.returns (hb hby d9_73) hr
  · show Q9 Z p1 p2 p3 h0 n0 _ s₁.heap _
    rw [e0]
    exact ⟨rfl, N0, rfl⟩
theorem ef_rm5 (m : MethodId) (x0 : Addr) (x1 : Int32) : entryFrame m #[(.ref x0), (.int x1)] 3 = mkF m 0 #[.val (.ref x0), .val (.int x1), .unset] [] := by first | (simp [entryFrame, mkF, argsToLocals, Value.category]; done) | rfl
def Q5 (Z : State) (a1 : Addr) (p2 : Int32) (n1 : Nat) (n2 : Nat) (f : Nat → Value) (h0 : Heap) (n0 : Nat) (v : Option Value) (h : Heap) (L : List Loc) : Prop := ∃ r : Addr, v = some (.ref r) ∧ Fr n0 L ∧ Keep h0 h [] ∧ h0.size ≤ r ∧ own_Ar Z h r .boolean n2 (fun i => if i < n1 then f i else (.int (0 : Int32)))
set_option maxRecDepth 65536 in
set_option maxHeartbeats 40000000 in
theorem rm5 (l : Launch) (Z : State) (a0 : Array Value) (hw : ∀ d ∈ tables_1, d.before a0 Z = true) (ws : List Jvm.Cond) (a1 : Addr) (p2 : Int32) (n1 : Nat) (n2 : Nat) (f : Nat → Value) (h0 : Heap) (n0 : Nat) (Z0 : n0 ≤ h0.size) (V1 : own_Ar Z h0 a1 .boolean n1 f) (hp2 : p2.toInt = n2) (h12 : n1 < n2) (hcap : n2 ≤ 16) :
    MetFree l (⟨"java/util/Arrays", "copyOf", "([ZI)[Z"⟩ : MethodName) (head1 (Jvm.Cond.code (⟨"java/util/Arrays", "copyOf", "([ZI)[Z"⟩ : MethodName) jdk_65_method_128_code 3 (some (.array .boolean)) :: ws) ({ frames := 1, cells := 1, slots := 16, locals := 18 } : Room)) (fun a U => a = #[(.ref a1), (.int p2)] ∧ Z.Warmed39 U.vm ∧ U.heap = h0) (fun _ _ _ _ _ => True) (fun _ U o U' => ∃ v L, o = .returned v ∧ Q5 Z a1 p2 n1 n2 f h0 n0 v U'.heap L ∧ FrameEnd U o U' L ({ frames := 1, cells := 1, slots := 16, locals := 18 } : Room).cells ({ frames := 1, cells := 1, slots := 16, locals := 18 } : Room).slots) := by
  refine MetFree.of_bodySF (plainFor_of_name pn_5) hisR ?_
  intro p e s m args below meth c s₁ Bd hml0 hP hK
  obtain ⟨rfl, hZ, hh⟩ := hP
  have hx := Bd.exec
  have hby := Bd.bytes
  have hml : c.maxLocals = 3 := hml0
  have hown : s.vm.findClass "java/util/Arrays" = some m.cls := findClass_of_methodNamed Bd.named
  have hnm := (name_of_methodNamed Bd.named Bd.method).1
  have X0 : Stand p l e ({ frames := 1, cells := 1, slots := 16, locals := 18 } : Room) s m #[(.ref a1), (.int p2)] below meth c s₁ [] 0 0 := Stand.of_body Bd
  have e0 : s₁.heap = h0 := by rw [← hh, Bd.state]; rfl
  have N0 := Fr.nil n0
  have a0s : ∀ t, Steps p.tables e below (s₁.setTop (mkF m 0 #[.val (.ref a1), .val (.int p2), .unset] [])) t → Steps p.tables e below (s₁.setTop (entryFrame m #[(.ref a1), (.int p2)] 3)) t := fun t k => castTop (ef_rm5 m a1 p2) k
  have ac1 : ∀ t, Steps p.tables e below (s₁.setTop (mkF m 2 #[.val (.ref a1), .val (.int p2), .unset] [(.ref a1), (.int p2)])) t → Steps p.tables e below (s₁.setTop (entryFrame m #[(.ref a1), (.int p2)] 3)) t := fun t k => a0s t (by
      show Steps p.tables e below (s₁.setTop (mkF m 0 #[.val (.ref a1), .val (.int p2), .unset] [])) _
      refine XS.iloadN X0.here hx rfl (hb hby d5_0) rfl ?_
      show Steps p.tables e below (s₁.setTop (mkF m 1 #[.val (.ref a1), .val (.int p2), .unset] [(.int p2)])) _
      refine XS.aloadN X0.here hx rfl (hb hby d5_1) rfl rfl ?_
      exact k)
  obtain ⟨cl2, Ac2, hl2, hb2⟩ := V1.len
  have hn1 := own_ofNat hb2
  have ac3 : ∀ t, Steps p.tables e below (s₁.setTop (mkF m 15 #[.val (.ref a1), .val (.int p2), .unset] [(.int p2)])) t → Steps p.tables e below (s₁.setTop (entryFrame m #[(.ref a1), (.int p2)] 3)) t := fun t k => ac1 t (by
      show Steps p.tables e below (s₁.setTop (mkF m 2 #[.val (.ref a1), .val (.int p2), .unset] [(.ref a1), (.int p2)])) _
      refine X0.arraylength hx (by rw [e0]; exact Ac2.1) (State.isArrayOf_alike hZ.alike Ac2.2.1) (g := (mkF m 2 #[.val (.ref a1), .val (.int p2), .unset] [(.ref a1), (.int p2)])) rfl rfl (hb hby d5_2) _ ?_
      rw [hl2]
      show Steps p.tables e below (s₁.setTop (mkF m 3 #[.val (.ref a1), .val (.int p2), .unset] [(.int (Int32.ofNat n1)), (.int p2)])) _
      refine XS.icmpYes X0.here hx rfl (pc0 := 3) (pc' := 14) rfl (hb hby d5_3) rfl (feq (own_ne_of (by omega))).2 (by decide) (by decide) ?_
      show Steps p.tables e below (s₁.setTop (mkF m 14 #[.val (.ref a1), .val (.int p2), .unset] [])) _
      refine XS.iloadN X0.here hx rfl (hb hby d5_14) rfl ?_
      exact k)
  obtain ⟨T4, h4, k4, X4, e4, E4, A4, st4⟩ := newP X0 hx hZ (hw _ (List.mem_of_getElem? (i := 12) rfl)) e0 (g := (mkF m 15 #[.val (.ref a1), .val (.int p2), .unset] [(.int p2)])) rfl (hb hby d5_15) rfl (own_lt0 (by omega)) (cap := 16) (by have := own_nat (j := p2) (by omega); omega) (by decide) (by decide) (by decide)
  obtain ⟨b4, g4⟩ : ∃ z, z = h0.size := ⟨_, rfl⟩
  rw [← g4] at A4 st4
  have g_b4 : n0 ≤ b4 := Nat.le_trans Z0 (Nat.le_of_eq g4.symm)
  have sz_b4 : h0.size ≤ b4 := Nat.le_trans (Keep.refl h0 []).1 (Nat.le_of_eq g4.symm)
  have ne_a1_b4 : a1 ≠ b4 := Nat.ne_of_lt (Nat.lt_of_lt_of_le V1.lt (Nat.le_of_eq g4.symm))
  have Vf5 := V1.ext E4
  have Z4 : n0 ≤ h4.size := Nat.le_trans Z0 E4.1
  have Kp6 : Keep h0 h4 [] := (Keep.refl h0 []).ext E4
  have V4 : own_Ar Z h4 b4 .boolean n2 (fun _ => (.int (0 : Int32))) := own_Ar.new A4 hp2
  have ac7 : ∀ t, Steps p.tables e below (T4.setTop (mkF m 17 #[.val (.ref a1), .val (.int p2), .unset] [(.ref b4)])) t → Steps p.tables e below (s₁.setTop (entryFrame m #[(.ref a1), (.int p2)] 3)) t := fun t k => ac3 t (st4 t k)
  have ac8 : ∀ t, Steps p.tables e below (T4.setTop (mkF m 23 #[.val (.ref a1), .val (.int p2), .val (.ref b4)] [(.ref a1), (.int (0 : Int32)), (.ref b4), (.int (0 : Int32)), (.ref a1)])) t → Steps p.tables e below (s₁.setTop (entryFrame m #[(.ref a1), (.int p2)] 3)) t := fun t k => ac7 t (by
      show Steps p.tables e below (T4.setTop (mkF m 17 #[.val (.ref a1), .val (.int p2), .unset] [(.ref b4)])) _
      refine XS.astoreN X4.here hx rfl (hb hby d5_17) rfl rfl (l' := #[.val (.ref a1), .val (.int p2), .val (.ref b4)]) rfl ?_
      show Steps p.tables e below (T4.setTop (mkF m 18 #[.val (.ref a1), .val (.int p2), .val (.ref b4)] [])) _
      refine XS.aloadN X4.here hx rfl (hb hby d5_18) rfl rfl ?_
      show Steps p.tables e below (T4.setTop (mkF m 19 #[.val (.ref a1), .val (.int p2), .val (.ref b4)] [(.ref a1)])) _
      refine XS.iconst X4.here hx rfl (hb hby d5_19) ?_
      show Steps p.tables e below (T4.setTop (mkF m 20 #[.val (.ref a1), .val (.int p2), .val (.ref b4)] [(.int (0 : Int32)), (.ref a1)])) _
      refine XS.aloadN X4.here hx rfl (hb hby d5_20) rfl rfl ?_
      show Steps p.tables e below (T4.setTop (mkF m 21 #[.val (.ref a1), .val (.int p2), .val (.ref b4)] [(.ref b4), (.int (0 : Int32)), (.ref a1)])) _
      refine XS.iconst X4.here hx rfl (hb hby d5_21) ?_
      show Steps p.tables e below (T4.setTop (mkF m 22 #[.val (.ref a1), .val (.int p2), .val (.ref b4)] [(.int (0 : Int32)), (.ref b4), (.int (0 : Int32)), (.ref a1)])) _
      refine XS.aloadN X4.here hx rfl (hb hby d5_22) rfl rfl ?_
      exact k)
  obtain ⟨cl9, Ac9, hl9, hb9⟩ := Vf5.len
  have ac10 : ∀ t, Steps p.tables e below (T4.setTop (mkF m 25 #[.val (.ref a1), .val (.int p2), .val (.ref b4)] [(.int p2), (.int (Int32.ofNat n1)), (.int (0 : Int32)), (.ref b4), (.int (0 : Int32)), (.ref a1)])) t → Steps p.tables e below (s₁.setTop (entryFrame m #[(.ref a1), (.int p2)] 3)) t := fun t k => ac8 t (by
      show Steps p.tables e below (T4.setTop (mkF m 23 #[.val (.ref a1), .val (.int p2), .val (.ref b4)] [(.ref a1), (.int (0 : Int32)), (.ref b4), (.int (0 : Int32)), (.ref a1)])) _
      refine X4.arraylength hx (by rw [e4]; exact Ac9.1) (State.isArrayOf_alike hZ.alike Ac9.2.1) (g := (mkF m 23 #[.val (.ref a1), .val (.int p2), .val (.ref b4)] [(.ref a1), (.int (0 : Int32)), (.ref b4), (.int (0 : Int32)), (.ref a1)])) rfl rfl (hb hby d5_23) _ ?_
      rw [hl9]
      show Steps p.tables e below (T4.setTop (mkF m 24 #[.val (.ref a1), .val (.int p2), .val (.ref b4)] [(.int (Int32.ofNat n1)), (.int (0 : Int32)), (.ref b4), (.int (0 : Int32)), (.ref a1)])) _
      refine XS.iloadN X4.here hx rfl (hb hby d5_24) rfl ?_
      exact k)
  obtain ⟨_, _, ⟨T11, L11, k11, n11⟩, -, X11, ⟨Lc11, hQ11, l11, y11, z11⟩, st11⟩ := Jvm.LawKit.callS X4 hx (y := (⟨"java/lang/Math", "min", "(II)I"⟩ : MethodName)) hown (mvT hZ (hw _ (List.mem_of_getElem? (i := 32) rfl))) (mvT hZ (hw _ (List.mem_of_getElem? (i := 33) rfl))) (mvT hZ (hw _ (List.mem_of_getElem? (i := 26) rfl))) (mvT hZ (hw _ (List.mem_of_getElem? (i := 34) rfl))) (by decide) (backOf (W := 4) (rm6 l Z a0 hw [] (Int32.ofNat n1) p2  h4 n0 Z4 ) hZ (hw _ (List.mem_of_getElem? (i := 34) rfl)) (hw _ (List.mem_of_getElem? (i := 26) rfl)) (by decide) (by decide)) (g := (mkF m 25 #[.val (.ref a1), .val (.int p2), .val (.ref b4)] [(.int p2), (.int (Int32.ofNat n1)), (.int (0 : Int32)), (.ref b4), (.int (0 : Int32)), (.ref a1)])) rfl (by rw [hml]; rfl) (argsL := [(.int (Int32.ofNat n1)), (.int p2)]) (rest := [(.int (0 : Int32)), (.ref b4), (.int (0 : Int32)), (.ref a1)]) (lenOf pd_3 rfl) rfl (by show 2 * 0 + _ ≤ _; exact Nat.le_of_eq rfl) (hb hby d5_25) (fun _ _ => ⟨rfl, e4, (by decide : 1 + 0 ≤ _), (by decide : 16 + 0 ≤ _)⟩)
  dsimp only [Pt.U, Pt.locs, Pt.cells, Pt.slots] at X11 l11 y11 z11 st11 hQ11
  subst l11 y11 z11
  obtain ⟨rfl, N11q, Qe11⟩ := hQ11
  have N11 := Fr.app N0 N11q
  have ac12 : ∀ t, Steps p.tables e below (T11.setTop (mkF m 28 #[.val (.ref a1), .val (.int p2), .val (.ref b4)] [(.int (own_min (Int32.ofNat n1) p2)), (.int (0 : Int32)), (.ref b4), (.int (0 : Int32)), (.ref a1)])) t → Steps p.tables e below (s₁.setTop (entryFrame m #[(.ref a1), (.int p2)] 3)) t := fun t k => ac10 t (st11 t k)
  have hmin13 : (own_min (Int32.ofNat n1) p2).toInt = n1 := by rw [own_min_f (own_nlt_of (by omega))]; exact hn1
  obtain ⟨T13, h13, Lc13, X13, e13, N13, K13q, V13, st13⟩ := own_cp X11 hx hZ hown (hw _ (List.mem_of_getElem? (i := 35) rfl)) (hw _ (List.mem_of_getElem? (i := 38) rfl)) (hw _ (List.mem_of_getElem? (i := 36) rfl)) (hw _ (List.mem_of_getElem? (i := 37) rfl)) Qe11 Vf5 V4 rfl (k := n1) (Nat.le_refl _) (Nat.le_of_lt h12) hmin13 N11 g_b4 (g := (mkF m 28 #[.val (.ref a1), .val (.int p2), .val (.ref b4)] [(.int (own_min (Int32.ofNat n1) p2)), (.int (0 : Int32)), (.ref b4), (.int (0 : Int32)), (.ref a1)])) rfl (by rw [hml]; rfl) rfl (hb hby d5_28) (by decide) (W := 0) (by show 2 * 0 + _ ≤ _; exact Nat.le_of_eq rfl) (by decide)
  have Vf14 := Vf5.keep K13q (ninS ne_a1_b4 nin0)
  have Z13 : n0 ≤ h13.size := Nat.le_trans Z4 K13q.1
  have Kp15 : Keep h0 h13 [] := Kp6.trans K13q (allS (Or.inr sz_b4) all0)
  have ac16 : ∀ t, Steps p.tables e below (T13.setTop (mkF m 31 #[.val (.ref a1), .val (.int p2), .val (.ref b4)] [])) t → Steps p.tables e below (s₁.setTop (entryFrame m #[(.ref a1), (.int p2)] 3)) t := fun t k => ac12 t (st13 t k)
  have ac17 : ∀ t, Steps p.tables e below (T13.setTop (mkF m 32 #[.val (.ref a1), .val (.int p2), .val (.ref b4)] [(.ref b4)])) t → Steps p.tables e below (s₁.setTop (entryFrame m #[(.ref a1), (.int p2)] 3)) t := fun t k => ac16 t (by
      show Steps p.tables e below (T13.setTop (mkF m 31 #[.val (.ref a1), .val (.int p2), .val (.ref b4)] [])) _
      refine XS.aloadN X13.here hx rfl (hb hby d5_31) rfl rfl ?_
      exact k)
  obtain ⟨fs, hr, hrun, hended, hW, hsame⟩ := X13.leave (v := some (.ref b4)) (fun h => by rw [Bd.returns] at h; cases h) (BodyLoose.notSynchronized Bd)
  refine ⟨_, _, ac17 _ ?_, hrun, hended, _, _, rfl, ?_, ⟨_, rfl⟩, hW, hsame.mono (by decide) (by decide)⟩
  · show Steps p.tables e below (T13.setTop (mkF m 32 #[.val (.ref a1), .val (.int p2), .val (.ref b4)] [(.ref b4)])) _
    exact retOut X13 hx Bd.returns rfl (Or.inr (Or.inr (Or.inr (Or.inr ⟨rfl, rfl, rfl⟩)))) (hb hby d5_32) hr
  · show Q5 Z a1 p2 n1 n2 f h0 n0 _ T13.heap _
    rw [e13]
    exact ⟨b4, rfl, N13, Kp15, sz_b4, V13⟩
theorem ef_rm7 (m : MethodId) (x0 : Addr) (x1 : Int32) : entryFrame m #[(.ref x0), (.int x1)] 3 = mkF m 0 #[.val (.ref x0), .val (.int x1), .unset] [] := by first | (simp [entryFrame, mkF, argsToLocals, Value.category]; done) | rfl
def Q7 (Z : State) (a1 : Addr) (p2 : Int32) (n1 : Nat) (n2 : Nat) (f : Nat → Value) (h0 : Heap) (n0 : Nat) (v : Option Value) (h : Heap) (L : List Loc) : Prop := ∃ r : Addr, v = some (.ref r) ∧ Fr n0 L ∧ Keep h0 h [] ∧ h0.size ≤ r ∧ own_Ar Z h r .int n2 (fun i => if i < n1 then f i else (.int (0 : Int32)))
set_option maxRecDepth 65536 in
set_option maxHeartbeats 40000000 in
theorem rm7 (l : Launch) (Z : State) (a0 : Array Value) (hw : ∀ d ∈ tables_1, d.before a0 Z = true) (ws : List Jvm.Cond) (a1 : Addr) (p2 : Int32) (n1 : Nat) (n2 : Nat) (f : Nat → Value) (h0 : Heap) (n0 : Nat) (Z0 : n0 ≤ h0.size) (V1 : own_Ar Z h0 a1 .int n1 f) (hp2 : p2.toInt = n2) (h12 : n1 < n2) (hcap : n2 ≤ 128) :
    MetFree l (⟨"java/util/Arrays", "copyOf", "([II)[I"⟩ : MethodName) (head1 (Jvm.Cond.code (⟨"java/util/Arrays", "copyOf", "([II)[I"⟩ : MethodName) jdk_65_method_123_code 3 (some (.array .int)) :: ws) ({ frames := 1, cells := 1, slots := 128, locals := 18 } : Room)) (fun a U => a = #[(.ref a1), (.int p2)] ∧ Z.Warmed39 U.vm ∧ U.heap = h0) (fun _ _ _ _ _ => True) (fun _ U o U' => ∃ v L, o = .returned v ∧ Q7 Z a1 p2 n1 n2 f h0 n0 v U'.heap L ∧ FrameEnd U o U' L ({ frames := 1, cells := 1, slots := 128, locals := 18 } : Room).cells ({ frames := 1, cells := 1, slots := 128, locals := 18 } : Room).slots) := by
  refine MetFree.of_bodySF (plainFor_of_name pn_7) hisR ?_
  intro p e s m args below meth c s₁ Bd hml0 hP hK
  obtain ⟨rfl, hZ, hh⟩ := hP
  have hx := Bd.exec
  have hby := Bd.bytes
  have hml : c.maxLocals = 3 := hml0
  have hown : s.vm.findClass "java/util/Arrays" = some m.cls := findClass_of_methodNamed Bd.named
  have hnm := (name_of_methodNamed Bd.named Bd.method).1
  have X0 : Stand p l e ({ frames := 1, cells := 1, slots := 128, locals := 18 } : Room) s m #[(.ref a1), (.int p2)] below meth c s₁ [] 0 0 := Stand.of_body Bd
  have e0 : s₁.heap = h0 := by rw [← hh, Bd.state]; rfl
  have N0 := Fr.nil n0
  have a0s : ∀ t, Steps p.tables e below (s₁.setTop (mkF m 0 #[.val (.ref a1), .val (.int p2), .unset] [])) t → Steps p.tables e below (s₁.setTop (entryFrame m #[(.ref a1), (.int p2)] 3)) t := fun t k => castTop (ef_rm7 m a1 p2) k
  have ac1 : ∀ t, Steps p.tables e below (s₁.setTop (mkF m 2 #[.val (.ref a1), .val (.int p2), .unset] [(.ref a1), (.int p2)])) t → Steps p.tables e below (s₁.setTop (entryFrame m #[(.ref a1), (.int p2)] 3)) t := fun t k => a0s t (by
      show Steps p.tables e below (s₁.setTop (mkF m 0 #[.val (.ref a1), .val (.int p2), .unset] [])) _
      refine XS.iloadN X0.here hx rfl (hb hby d7_0) rfl ?_
      show Steps p.tables e below (s₁.setTop (mkF m 1 #[.val (.ref a1), .val (.int p2), .unset] [(.int p2)])) _
      refine XS.aloadN X0.here hx rfl (hb hby d7_1) rfl rfl ?_
      exact k)
  obtain ⟨cl2, Ac2, hl2, hb2⟩ := V1.len
  have hn1 := own_ofNat hb2
  have ac3 : ∀ t, Steps p.tables e below (s₁.setTop (mkF m 15 #[.val (.ref a1), .val (.int p2), .unset] [(.int p2)])) t → Steps p.tables e below (s₁.setTop (entryFrame m #[(.ref a1), (.int p2)] 3)) t := fun t k => ac1 t (by
      show Steps p.tables e below (s₁.setTop (mkF m 2 #[.val (.ref a1), .val (.int p2), .unset] [(.ref a1), (.int p2)])) _
      refine X0.arraylength hx (by rw [e0]; exact Ac2.1) (State.isArrayOf_alike hZ.alike Ac2.2.1) (g := (mkF m 2 #[.val (.ref a1), .val (.int p2), .unset] [(.ref a1), (.int p2)])) rfl rfl (hb hby d7_2) _ ?_
      rw [hl2]
      show Steps p.tables e below (s₁.setTop (mkF m 3 #[.val (.ref a1), .val (.int p2), .unset] [(.int (Int32.ofNat n1)), (.int p2)])) _
      refine XS.icmpYes X0.here hx rfl (pc0 := 3) (pc' := 14) rfl (hb hby d7_3) rfl (feq (own_ne_of (by omega))).2 (by decide) (by decide) ?_
      show Steps p.tables e below (s₁.setTop (mkF m 14 #[.val (.ref a1), .val (.int p2), .unset] [])) _
      refine XS.iloadN X0.here hx rfl (hb hby d7_14) rfl ?_
      exact k)
  obtain ⟨T4, h4, k4, X4, e4, E4, A4, st4⟩ := newP X0 hx hZ (hw _ (List.mem_of_getElem? (i := 9) rfl)) e0 (g := (mkF m 15 #[.val (.ref a1), .val (.int p2), .unset] [(.int p2)])) rfl (hb hby d7_15) rfl (own_lt0 (by omega)) (cap := 128) (by have := own_nat (j := p2) (by omega); omega) (by decide) (by decide) (by decide)
  obtain ⟨b4, g4⟩ : ∃ z, z = h0.size := ⟨_, rfl⟩
  rw [← g4] at A4 st4
  have g_b4 : n0 ≤ b4 := Nat.le_trans Z0 (Nat.le_of_eq g4.symm)
  have sz_b4 : h0.size ≤ b4 := Nat.le_trans (Keep.refl h0 []).1 (Nat.le_of_eq g4.symm)
  have ne_a1_b4 : a1 ≠ b4 := Nat.ne_of_lt (Nat.lt_of_lt_of_le V1.lt (Nat.le_of_eq g4.symm))
  have Vf5 := V1.ext E4
  have Z4 : n0 ≤ h4.size := Nat.le_trans Z0 E4.1
  have Kp6 : Keep h0 h4 [] := (Keep.refl h0 []).ext E4
  have V4 : own_Ar Z h4 b4 .int n2 (fun _ => (.int (0 : Int32))) := own_Ar.new A4 hp2
  have ac7 : ∀ t, Steps p.tables e below (T4.setTop (mkF m 17 #[.val (.ref a1), .val (.int p2), .unset] [(.ref b4)])) t → Steps p.tables e below (s₁.setTop (entryFrame m #[(.ref a1), (.int p2)] 3)) t := fun t k => ac3 t (st4 t k)
  have ac8 : ∀ t, Steps p.tables e below (T4.setTop (mkF m 23 #[.val (.ref a1), .val (.int p2), .val (.ref b4)] [(.ref a1), (.int (0 : Int32)), (.ref b4), (.int (0 : Int32)), (.ref a1)])) t → Steps p.tables e below (s₁.setTop (entryFrame m #[(.ref a1), (.int p2)] 3)) t := fun t k => ac7 t (by
      show Steps p.tables e below (T4.setTop (mkF m 17 #[.val (.ref a1), .val (.int p2), .unset] [(.ref b4)])) _
      refine XS.astoreN X4.here hx rfl (hb hby d7_17) rfl rfl (l' := #[.val (.ref a1), .val (.int p2), .val (.ref b4)]) rfl ?_
      show Steps p.tables e below (T4.setTop (mkF m 18 #[.val (.ref a1), .val (.int p2), .val (.ref b4)] [])) _
      refine XS.aloadN X4.here hx rfl (hb hby d7_18) rfl rfl ?_
      show Steps p.tables e below (T4.setTop (mkF m 19 #[.val (.ref a1), .val (.int p2), .val (.ref b4)] [(.ref a1)])) _
      refine XS.iconst X4.here hx rfl (hb hby d7_19) ?_
      show Steps p.tables e below (T4.setTop (mkF m 20 #[.val (.ref a1), .val (.int p2), .val (.ref b4)] [(.int (0 : Int32)), (.ref a1)])) _
      refine XS.aloadN X4.here hx rfl (hb hby d7_20) rfl rfl ?_
      show Steps p.tables e below (T4.setTop (mkF m 21 #[.val (.ref a1), .val (.int p2), .val (.ref b4)] [(.ref b4), (.int (0 : Int32)), (.ref a1)])) _
      refine XS.iconst X4.here hx rfl (hb hby d7_21) ?_
      show Steps p.tables e below (T4.setTop (mkF m 22 #[.val (.ref a1), .val (.int p2), .val (.ref b4)] [(.int (0 : Int32)), (.ref b4), (.int (0 : Int32)), (.ref a1)])) _
      refine XS.aloadN X4.here hx rfl (hb hby d7_22) rfl rfl ?_
      exact k)
  obtain ⟨cl9, Ac9, hl9, hb9⟩ := Vf5.len
  have ac10 : ∀ t, Steps p.tables e below (T4.setTop (mkF m 25 #[.val (.ref a1), .val (.int p2), .val (.ref b4)] [(.int p2), (.int (Int32.ofNat n1)), (.int (0 : Int32)), (.ref b4), (.int (0 : Int32)), (.ref a1)])) t → Steps p.tables e below (s₁.setTop (entryFrame m #[(.ref a1), (.int p2)] 3)) t := fun t k => ac8 t (by
      show Steps p.tables e below (T4.setTop (mkF m 23 #[.val (.ref a1), .val (.int p2), .val (.ref b4)] [(.ref a1), (.int (0 : Int32)), (.ref b4), (.int (0 : Int32)), (.ref a1)])) _
      refine X4.arraylength hx (by rw [e4]; exact Ac9.1) (State.isArrayOf_alike hZ.alike Ac9.2.1) (g := (mkF m 23 #[.val (.ref a1), .val (.int p2), .val (.ref b4)] [(.ref a1), (.int (0 : Int32)), (.ref b4), (.int (0 : Int32)), (.ref a1)])) rfl rfl (hb hby d7_23) _ ?_
      rw [hl9]
      show Steps p.tables e below (T4.setTop (mkF m 24 #[.val (.ref a1), .val (.int p2), .val (.ref b4)] [(.int (Int32.ofNat n1)), (.int (0 : Int32)), (.ref b4), (.int (0 : Int32)), (.ref a1)])) _
      refine XS.iloadN X4.here hx rfl (hb hby d7_24) rfl ?_
      exact k)
  obtain ⟨_, _, ⟨T11, L11, k11, n11⟩, -, X11, ⟨Lc11, hQ11, l11, y11, z11⟩, st11⟩ := Jvm.LawKit.callS X4 hx (y := (⟨"java/lang/Math", "min", "(II)I"⟩ : MethodName)) hown (mvT hZ (hw _ (List.mem_of_getElem? (i := 32) rfl))) (mvT hZ (hw _ (List.mem_of_getElem? (i := 33) rfl))) (mvT hZ (hw _ (List.mem_of_getElem? (i := 26) rfl))) (mvT hZ (hw _ (List.mem_of_getElem? (i := 34) rfl))) (by decide) (backOf (W := 4) (rm6 l Z a0 hw [] (Int32.ofNat n1) p2  h4 n0 Z4 ) hZ (hw _ (List.mem_of_getElem? (i := 34) rfl)) (hw _ (List.mem_of_getElem? (i := 26) rfl)) (by decide) (by decide)) (g := (mkF m 25 #[.val (.ref a1), .val (.int p2), .val (.ref b4)] [(.int p2), (.int (Int32.ofNat n1)), (.int (0 : Int32)), (.ref b4), (.int (0 : Int32)), (.ref a1)])) rfl (by rw [hml]; rfl) (argsL := [(.int (Int32.ofNat n1)), (.int p2)]) (rest := [(.int (0 : Int32)), (.ref b4), (.int (0 : Int32)), (.ref a1)]) (lenOf pd_3 rfl) rfl (by show 2 * 0 + _ ≤ _; exact Nat.le_of_eq rfl) (hb hby d7_25) (fun _ _ => ⟨rfl, e4, (by decide : 1 + 0 ≤ _), (by decide : 128 + 0 ≤ _)⟩)
  dsimp only [Pt.U, Pt.locs, Pt.cells, Pt.slots] at X11 l11 y11 z11 st11 hQ11
  subst l11 y11 z11
  obtain ⟨rfl, N11q, Qe11⟩ := hQ11
  have N11 := Fr.app N0 N11q
  have ac12 : ∀ t, Steps p.tables e below (T11.setTop (mkF m 28 #[.val (.ref a1), .val (.int p2), .val (.ref b4)] [(.int (own_min (Int32.ofNat n1) p2)), (.int (0 : Int32)), (.ref b4), (.int (0 : Int32)), (.ref a1)])) t → Steps p.tables e below (s₁.setTop (entryFrame m #[(.ref a1), (.int p2)] 3)) t := fun t k => ac10 t (st11 t k)
  have hmin13 : (own_min (Int32.ofNat n1) p2).toInt = n1 := by rw [own_min_f (own_nlt_of (by omega))]; exact hn1
  obtain ⟨T13, h13, Lc13, X13, e13, N13, K13q, V13, st13⟩ := own_cp X11 hx hZ hown (hw _ (List.mem_of_getElem? (i := 35) rfl)) (hw _ (List.mem_of_getElem? (i := 38) rfl)) (hw _ (List.mem_of_getElem? (i := 36) rfl)) (hw _ (List.mem_of_getElem? (i := 37) rfl)) Qe11 Vf5 V4 rfl (k := n1) (Nat.le_refl _) (Nat.le_of_lt h12) hmin13 N11 g_b4 (g := (mkF m 28 #[.val (.ref a1), .val (.int p2), .val (.ref b4)] [(.int (own_min (Int32.ofNat n1) p2)), (.int (0 : Int32)), (.ref b4), (.int (0 : Int32)), (.ref a1)])) rfl (by rw [hml]; rfl) rfl (hb hby d7_28) (by decide) (W := 0) (by show 2 * 0 + _ ≤ _; exact Nat.le_of_eq rfl) (by decide)
  have Vf14 := Vf5.keep K13q (ninS ne_a1_b4 nin0)
  have Z13 : n0 ≤ h13.size := Nat.le_trans Z4 K13q.1
  have Kp15 : Keep h0 h13 [] := Kp6.trans K13q (allS (Or.inr sz_b4) all0)
  have ac16 : ∀ t, Steps p.tables e below (T13.setTop (mkF m 31 #[.val (.ref a1), .val (.int p2), .val (.ref b4)] [])) t → Steps p.tables e below (s₁.setTop (entryFrame m #[(.ref a1), (.int p2)] 3)) t := fun t k => ac12 t (st13 t k)
  have ac17 : ∀ t, Steps p.tables e below (T13.setTop (mkF m 32 #[.val (.ref a1), .val (.int p2), .val (.ref b4)] [(.ref b4)])) t → Steps p.tables e below (s₁.setTop (entryFrame m #[(.ref a1), (.int p2)] 3)) t := fun t k => ac16 t (by
      show Steps p.tables e below (T13.setTop (mkF m 31 #[.val (.ref a1), .val (.int p2), .val (.ref b4)] [])) _
      refine XS.aloadN X13.here hx rfl (hb hby d7_31) rfl rfl ?_
      exact k)
  obtain ⟨fs, hr, hrun, hended, hW, hsame⟩ := X13.leave (v := some (.ref b4)) (fun h => by rw [Bd.returns] at h; cases h) (BodyLoose.notSynchronized Bd)
  refine ⟨_, _, ac17 _ ?_, hrun, hended, _, _, rfl, ?_, ⟨_, rfl⟩, hW, hsame.mono (by decide) (by decide)⟩
  · show Steps p.tables e below (T13.setTop (mkF m 32 #[.val (.ref a1), .val (.int p2), .val (.ref b4)] [(.ref b4)])) _
    exact retOut X13 hx Bd.returns rfl (Or.inr (Or.inr (Or.inr (Or.inr ⟨rfl, rfl, rfl⟩)))) (hb hby d7_32) hr
  · show Q7 Z a1 p2 n1 n2 f h0 n0 _ T13.heap _
    rw [e13]
    exact ⟨b4, rfl, N13, Kp15, sz_b4, V13⟩
theorem ef_rm8 (m : MethodId) (x0 : Addr) (x1 : Int32) (x2 : Int32) (x3 : Int32) : entryFrame m #[(.ref x0), (.int x1), (.int x2), (.int x3)] 5 = mkF m 0 #[.val (.ref x0), .val (.int x1), .val (.int x2), .val (.int x3), .unset] [] := by first | (simp [entryFrame, mkF, argsToLocals, Value.category]; done) | rfl
def Q8 (Z : State) (a1 : Addr) (p2 : Int32) (p3 : Int32) (p4 : Int32) (n1 : Nat) (i0 : Nat) (i1 : Nat) (f : Nat → Value) (h0 : Heap) (n0 : Nat) (v : Option Value) (h : Heap) (L : List Loc) : Prop := v = none ∧ Fr n0 L ∧ Keep h0 h [a1] ∧ own_Ar Z h a1 .int n1 (fun j => if i0 ≤ j ∧ j < i1 then (.int p4) else f j)
set_option maxRecDepth 65536 in
set_option maxHeartbeats 40000000 in
theorem rm8 (l : Launch) (Z : State) (a0 : Array Value) (hw : ∀ d ∈ tables_1, d.before a0 Z = true) (ws : List Jvm.Cond) (a1 : Addr) (p2 : Int32) (p3 : Int32) (p4 : Int32) (n1 : Nat) (i0 : Nat) (i1 : Nat) (f : Nat → Value) (h0 : Heap) (n0 : Nat) (Z0 : n0 ≤ h0.size) (V1 : own_Ar Z h0 a1 .int n1 f) (g_a1 : n0 ≤ a1) (hp2 : p2.toInt = i0) (hp3 : p3.toInt = i1) (h01 : i0 ≤ i1) (h1n : i1 ≤ n1) :
    MetFree l (⟨"java/util/Arrays", "fill", "([IIII)V"⟩ : MethodName) (head1 (Jvm.Cond.code (⟨"java/util/Arrays", "fill", "([IIII)V"⟩ : MethodName) jdk_65_method_104_code 5 none :: ws) ({ frames := 1, cells := 0, slots := 0, locals := 14 } : Room)) (fun a U => a = #[(.ref a1), (.int p2), (.int p3), (.int p4)] ∧ Z.Warmed39 U.vm ∧ U.heap = h0) (fun _ _ _ _ _ => True) (fun _ U o U' => ∃ v L, o = .returned v ∧ Q8 Z a1 p2 p3 p4 n1 i0 i1 f h0 n0 v U'.heap L ∧ FrameEnd U o U' L ({ frames := 1, cells := 0, slots := 0, locals := 14 } : Room).cells ({ frames := 1, cells := 0, slots := 0, locals := 14 } : Room).slots) := by
  refine MetFree.of_bodySF (plainFor_of_name pn_8) hisR ?_
  intro p e s m args below meth c s₁ Bd hml0 hP hK
  obtain ⟨rfl, hZ, hh⟩ := hP
  have hx := Bd.exec
  have hby := Bd.bytes
  have hml : c.maxLocals = 5 := hml0
  have hown : s.vm.findClass "java/util/Arrays" = some m.cls := findClass_of_methodNamed Bd.named
  have hnm := (name_of_methodNamed Bd.named Bd.method).1
  have X0 : Stand p l e ({ frames := 1, cells := 0, slots := 0, locals := 14 } : Room) s m #[(.ref a1), (.int p2), (.int p3), (.int p4)] below meth c s₁ [] 0 0 := Stand.of_body Bd
  have e0 : s₁.heap = h0 := by rw [← hh, Bd.state]; rfl
  have N0 := Fr.nil n0
  have a0s : ∀ t, Steps p.tables e below (s₁.setTop (mkF m 0 #[.val (.ref a1), .val (.int p2), .val (.int p3), .val (.int p4), .unset] [])) t → Steps p.tables e below (s₁.setTop (entryFrame m #[(.ref a1), (.int p2), (.int p3), (.int p4)] 5)) t := fun t k => castTop (ef_rm8 m a1 p2 p3 p4) k
  have ac1 : ∀ t, Steps p.tables e below (s₁.setTop (mkF m 1 #[.val (.ref a1), .val (.int p2), .val (.int p3), .val (.int p4), .unset] [(.ref a1)])) t → Steps p.tables e below (s₁.setTop (entryFrame m #[(.ref a1), (.int p2), (.int p3), (.int p4)] 5)) t := fun t k => a0s t (by
      show Steps p.tables e below (s₁.setTop (mkF m 0 #[.val (.ref a1), .val (.int p2), .val (.int p3), .val (.int p4), .unset] [])) _
      refine XS.aloadN X0.here hx rfl (hb hby d8_0) rfl rfl ?_
      exact k)
  obtain ⟨cl2, Ac2, hl2, hb2⟩ := V1.len
  have hn1 := own_ofNat hb2
  have ac3 : ∀ t, Steps p.tables e below (s₁.setTop (mkF m 4 #[.val (.ref a1), .val (.int p2), .val (.int p3), .val (.int p4), .unset] [(.int p3), (.int p2), (.int (Int32.ofNat n1))])) t → Steps p.tables e below (s₁.setTop (entryFrame m #[(.ref a1), (.int p2), (.int p3), (.int p4)] 5)) t := fun t k => ac1 t (by
      show Steps p.tables e below (s₁.setTop (mkF m 1 #[.val (.ref a1), .val (.int p2), .val (.int p3), .val (.int p4), .unset] [(.ref a1)])) _
      refine X0.arraylength hx (by rw [e0]; exact Ac2.1) (State.isArrayOf_alike hZ.alike Ac2.2.1) (g := (mkF m 1 #[.val (.ref a1), .val (.int p2), .val (.int p3), .val (.int p4), .unset] [(.ref a1)])) rfl rfl (hb hby d8_1) _ ?_
      rw [hl2]
      show Steps p.tables e below (s₁.setTop (mkF m 2 #[.val (.ref a1), .val (.int p2), .val (.int p3), .val (.int p4), .unset] [(.int (Int32.ofNat n1))])) _
      refine XS.iloadN X0.here hx rfl (hb hby d8_2) rfl ?_
      show Steps p.tables e below (s₁.setTop (mkF m 3 #[.val (.ref a1), .val (.int p2), .val (.int p3), .val (.int p4), .unset] [(.int p2), (.int (Int32.ofNat n1))])) _
      refine XS.iloadN X0.here hx rfl (hb hby d8_3) rfl ?_
      exact k)
  obtain ⟨_, _, ⟨T4, L4, k4, n4⟩, -, X4, ⟨Lc4, hQ4, l4, y4, z4⟩, st4⟩ := Jvm.LawKit.callS X0 hx (y := (⟨"java/util/Arrays", "rangeCheck", "(III)V"⟩ : MethodName)) hown (mvT hZ (hw _ (List.mem_of_getElem? (i := 45) rfl))) (mvT hZ (hw _ (List.mem_of_getElem? (i := 46) rfl))) (mvT hZ (hw _ (List.mem_of_getElem? (i := 30) rfl))) (mvT hZ (hw _ (List.mem_of_getElem? (i := 47) rfl))) (by decide) (backOf (W := 0) (rm9 l Z a0 hw [] (Int32.ofNat n1) p2 p3  h0 n0 Z0 (own_nlt_of (by omega)) (own_lt0 (by omega)) (own_nlt_of (by omega))) hZ (hw _ (List.mem_of_getElem? (i := 47) rfl)) (hw _ (List.mem_of_getElem? (i := 30) rfl)) (by decide) (by decide)) (g := (mkF m 4 #[.val (.ref a1), .val (.int p2), .val (.int p3), .val (.int p4), .unset] [(.int p3), (.int p2), (.int (Int32.ofNat n1))])) rfl (by rw [hml]; rfl) (argsL := [(.int (Int32.ofNat n1)), (.int p2), (.int p3)]) (rest := []) (lenOf pd_8 rfl) rfl (by show 2 * 0 + _ ≤ _; exact Nat.le_of_eq rfl) (hb hby d8_4) (fun _ _ => ⟨rfl, e0, (by decide : 0 + 0 ≤ _), (by decide : 0 + 0 ≤ _)⟩)
  dsimp only [Pt.U, Pt.locs, Pt.cells, Pt.slots] at X4 l4 y4 z4 st4 hQ4
  subst l4 y4 z4
  obtain ⟨rfl, N4q, Qe4⟩ := hQ4
  have N4 := Fr.app N0 N4q
  have ac5 : ∀ t, Steps p.tables e below (T4.setTop (mkF m 7 #[.val (.ref a1), .val (.int p2), .val (.int p3), .val (.int p4), .unset] [])) t → Steps p.tables e below (s₁.setTop (entryFrame m #[(.ref a1), (.int p2), (.int p3), (.int p4)] 5)) t := fun t k => ac3 t (st4 t k)
  have ac6 : ∀ t, Steps p.tables e below (T4.setTop (mkF m 10 #[.val (.ref a1), .val (.int p2), .val (.int p3), .val (.int p4), .val (.int p2)] [])) t → Steps p.tables e below (s₁.setTop (entryFrame m #[(.ref a1), (.int p2), (.int p3), (.int p4)] 5)) t := fun t k => ac5 t (by
      show Steps p.tables e below (T4.setTop (mkF m 7 #[.val (.ref a1), .val (.int p2), .val (.int p3), .val (.int p4), .unset] [])) _
      refine XS.iloadN X4.here hx rfl (hb hby d8_7) rfl ?_
      show Steps p.tables e below (T4.setTop (mkF m 8 #[.val (.ref a1), .val (.int p2), .val (.int p3), .val (.int p4), .unset] [(.int p2)])) _
      refine XS.istore X4.here hx rfl (hb hby d8_8) rfl (l' := #[.val (.ref a1), .val (.int p2), .val (.int p3), .val (.int p4), .val (.int p2)]) rfl ?_
      exact k)
  have loop : ∀ (k : Nat) (T : State) (hL : Heap) (locs : List Loc) (i : Int32) (j0 : Nat) (fL : Nat → Value), Stand p l e ({ frames := 1, cells := 0, slots := 0, locals := 14 } : Room) s m #[(.ref a1), (.int p2), (.int p3), (.int p4)] below meth c T locs 0 0 → T.heap = hL → own_Ar Z hL a1 .int n1 fL → Fr n0 locs → n0 ≤ hL.size → i.toInt = j0 → j0 + k = i1 →
      ∃ (T' : State) (h' : Heap) (locs' : List Loc) (iE : Int32), Stand p l e ({ frames := 1, cells := 0, slots := 0, locals := 14 } : Room) s m #[(.ref a1), (.int p2), (.int p3), (.int p4)] below meth c T' locs' 0 0 ∧ T'.heap = h' ∧ Fr n0 locs' ∧ Keep hL h' [a1] ∧ own_Ar Z h' a1 .int n1 (fun j => if j0 ≤ j ∧ j < i1 then (.int p4) else fL j) ∧ ∀ t, Steps p.tables e below (T'.setTop (mkF m 27 #[.val (.ref a1), .val (.int p2), .val (.int p3), .val (.int p4), .val (.int iE)] [])) t → Steps p.tables e below (T.setTop (mkF m 10 #[.val (.ref a1), .val (.int p2), .val (.int p3), .val (.int p4), .val (.int i)] [])) t := by
    intro k
    induction k with
    | zero =>
      intro T hL locs i j0 fL XL eL VL NL ZL hi hk
      have aL : ∀ t, Steps p.tables e below (T.setTop (mkF m 10 #[.val (.ref a1), .val (.int p2), .val (.int p3), .val (.int p4), .val (.int i)] [])) t → Steps p.tables e below (T.setTop (mkF m 10 #[.val (.ref a1), .val (.int p2), .val (.int p3), .val (.int p4), .val (.int i)] [])) t := fun t k => k
      have ac7 : ∀ t, Steps p.tables e below (T.setTop (mkF m 27 #[.val (.ref a1), .val (.int p2), .val (.int p3), .val (.int p4), .val (.int i)] [])) t → Steps p.tables e below (T.setTop (mkF m 10 #[.val (.ref a1), .val (.int p2), .val (.int p3), .val (.int p4), .val (.int i)] [])) t := fun t k => aL t (by
          show Steps p.tables e below (T.setTop (mkF m 10 #[.val (.ref a1), .val (.int p2), .val (.int p3), .val (.int p4), .val (.int i)] [])) _
          refine XS.iload XL.here hx rfl (hb hby d8_10) rfl ?_
          show Steps p.tables e below (T.setTop (mkF m 12 #[.val (.ref a1), .val (.int p2), .val (.int p3), .val (.int p4), .val (.int i)] [(.int i)])) _
          refine XS.iloadN XL.here hx rfl (hb hby d8_12) rfl ?_
          show Steps p.tables e below (T.setTop (mkF m 13 #[.val (.ref a1), .val (.int p2), .val (.int p3), .val (.int p4), .val (.int i)] [(.int p3), (.int i)])) _
          refine XS.icmpYes XL.here hx rfl (pc0 := 13) (pc' := 27) rfl (hb hby d8_13) rfl (flt (own_nlt_of (by omega))).2.1 (by decide) (by decide) ?_
          exact k)
      exact ⟨T, hL, locs, i, XL, eL, NL, Keep.refl _ _, VL.eq (fun j hj => (if_neg (by omega)).symm), ac7⟩
    | succ k ih =>
      intro T hL locs i j0 fL XL eL VL NL ZL hi hk
      have aL : ∀ t, Steps p.tables e below (T.setTop (mkF m 10 #[.val (.ref a1), .val (.int p2), .val (.int p3), .val (.int p4), .val (.int i)] [])) t → Steps p.tables e below (T.setTop (mkF m 10 #[.val (.ref a1), .val (.int p2), .val (.int p3), .val (.int p4), .val (.int i)] [])) t := fun t k => k
      have ac8 : ∀ t, Steps p.tables e below (T.setTop (mkF m 20 #[.val (.ref a1), .val (.int p2), .val (.int p3), .val (.int p4), .val (.int i)] [(.int p4), (.int i), (.ref a1)])) t → Steps p.tables e below (T.setTop (mkF m 10 #[.val (.ref a1), .val (.int p2), .val (.int p3), .val (.int p4), .val (.int i)] [])) t := fun t k => aL t (by
          show Steps p.tables e below (T.setTop (mkF m 10 #[.val (.ref a1), .val (.int p2), .val (.int p3), .val (.int p4), .val (.int i)] [])) _
          refine XS.iload XL.here hx rfl (hb hby d8_10) rfl ?_
          show Steps p.tables e below (T.setTop (mkF m 12 #[.val (.ref a1), .val (.int p2), .val (.int p3), .val (.int p4), .val (.int i)] [(.int i)])) _
          refine XS.iloadN XL.here hx rfl (hb hby d8_12) rfl ?_
          show Steps p.tables e below (T.setTop (mkF m 13 #[.val (.ref a1), .val (.int p2), .val (.int p3), .val (.int p4), .val (.int i)] [(.int p3), (.int i)])) _
          refine XS.icmpNo XL.here hx rfl (hb hby d8_13) rfl (tlt (own_lt_of (by omega))).2.1 ?_
          show Steps p.tables e below (T.setTop (mkF m 16 #[.val (.ref a1), .val (.int p2), .val (.int p3), .val (.int p4), .val (.int i)] [])) _
          refine XS.aloadN XL.here hx rfl (hb hby d8_16) rfl rfl ?_
          show Steps p.tables e below (T.setTop (mkF m 17 #[.val (.ref a1), .val (.int p2), .val (.int p3), .val (.int p4), .val (.int i)] [(.ref a1)])) _
          refine XS.iload XL.here hx rfl (hb hby d8_17) rfl ?_
          show Steps p.tables e below (T.setTop (mkF m 19 #[.val (.ref a1), .val (.int p2), .val (.int p3), .val (.int p4), .val (.int i)] [(.int i), (.ref a1)])) _
          refine XS.iloadN XL.here hx rfl (hb hby d8_19) rfl ?_
          exact k)
      obtain ⟨cl9, Ac9, hin9, -⟩ := VL.at (j := i) (i := j0) hi (by omega)
      obtain ⟨T9, h9, X9, e9, W9, st9⟩ := stI XL hx hZ eL Ac9 (j := i) hin9 (g := (mkF m 20 #[.val (.ref a1), .val (.int p2), .val (.int p3), .val (.int p4), .val (.int i)] [(.int p4), (.int i), (.ref a1)])) rfl rfl (hb hby d8_20)
      have V9 := VL.set (i := j0) hi W9 rfl
      have N9 := Fr.snoc X9 NL g_a1
      have Z9 : n0 ≤ h9.size := Nat.le_trans ZL (Keep.of_wr W9).1
      have ac10 : ∀ t, Steps p.tables e below (T9.setTop (mkF m 21 #[.val (.ref a1), .val (.int p2), .val (.int p3), .val (.int p4), .val (.int i)] [])) t → Steps p.tables e below (T.setTop (mkF m 10 #[.val (.ref a1), .val (.int p2), .val (.int p3), .val (.int p4), .val (.int i)] [])) t := fun t k => ac8 t (st9 t k)
      have ac11 : ∀ t, Steps p.tables e below (T9.setTop (mkF m 10 #[.val (.ref a1), .val (.int p2), .val (.int p3), .val (.int p4), .val (.int (i + (1 : Int32)))] [])) t → Steps p.tables e below (T.setTop (mkF m 10 #[.val (.ref a1), .val (.int p2), .val (.int p3), .val (.int p4), .val (.int i)] [])) t := fun t k => ac10 t (by
          show Steps p.tables e below (T9.setTop (mkF m 21 #[.val (.ref a1), .val (.int p2), .val (.int p3), .val (.int p4), .val (.int i)] [])) _
          refine XS.iinc X9.here hx rfl (hb hby d8_21) rfl (l' := #[.val (.ref a1), .val (.int p2), .val (.int p3), .val (.int p4), .val (.int (i + (1 : Int32)))]) rfl ?_
          show Steps p.tables e below (T9.setTop (mkF m 24 #[.val (.ref a1), .val (.int p2), .val (.int p3), .val (.int p4), .val (.int (i + (1 : Int32)))] [])) _
          refine XS.goto X9.here hx rfl (pc0 := 24) (pc' := 10) rfl (hb hby d8_24) (by decide) (by decide) ?_
          exact k)
      have ci := c_iadd i 1
      have ri := rng32 (i + 1)
      have r3 := rng32 p3
      have z1 : (1 : Int32).toInt = 1 := rfl
      obtain ⟨T', h', locs', iE, X', e', N', K', V', st'⟩ := ih T9 h9 _ (i + (1 : Int32)) (j0 + 1) _ X9 e9 V9 N9 Z9 (by omega) (by omega)
      refine ⟨T', h', locs', iE, X', e', N', (Keep.of_wr W9).trans K' (allS (Or.inl (List.mem_of_getElem? (i := 0) rfl)) all0), V'.eq (fun j hj => ?_), fun t k => ac11 t (st' t k)⟩
      by_cases u : j = j0
      · rw [if_neg (by omega), if_pos u, if_pos (by omega)]
      · by_cases v : j0 + 1 ≤ j ∧ j < i1
        · rw [if_pos v, if_pos (by omega)]
        · rw [if_neg v, if_neg u, if_neg (by omega)]
  obtain ⟨T12, h12, Lc12, iE12, X12, e12, Nq12, K12q, V12, st12⟩ := loop (i1 - i0) T4 h0 _ p2 i0 f X4 Qe4 V1 N4 Z0 hp2 (by omega)
  have ac13 : ∀ t, Steps p.tables e below (T12.setTop (mkF m 27 #[.val (.ref a1), .val (.int p2), .val (.int p3), .val (.int p4), .val (.int iE12)] [])) t → Steps p.tables e below (s₁.setTop (entryFrame m #[(.ref a1), (.int p2), (.int p3), (.int p4)] 5)) t := fun t k => ac6 t (st12 t k)
  obtain ⟨fs, hr, hrun, hended, hW, hsame⟩ := X12.leave (v := none) (fun _ => rfl) (BodyLoose.notSynchronized Bd)
  refine ⟨_, _, ac13 _ ?_, hrun, hended, _, _, rfl, ?_, ⟨_, rfl⟩, hW, hsame.mono (by decide) (by decide)⟩
  · show Steps p.tables e below (T12.setTop (mkF m 27 #[.val (.ref a1), .val (.int p2), .val (.int p3), .val (.int p4), .val (.int iE12)] [])) _
    exact X12.returnOut hx Bd.returns (hb hby d8_27) hr
  · show Q8 Z a1 p2 p3 p4 n1 i0 i1 f h0 n0 _ T12.heap _
    rw [e12]
    exact ⟨rfl, Nq12, K12q, V12⟩
theorem ef_rm1 (m : MethodId) (x0 : Addr) (x1 : Int32) : entryFrame m #[(.ref x0), (.int x1)] 2 = mkF m 0 #[.val (.ref x0), .val (.int x1)] [] := by first | (simp [entryFrame, mkF, argsToLocals, Value.category]; done) | rfl
def Q1 (Z : State) (a1 : Addr) (p2 : Int32) (h0 : Heap) (n0 : Nat) (v : Option Value) (h : Heap) (L : List Loc) : Prop := v = none ∧ Fr n0 L ∧ Keep h0 h [a1] ∧ ∃ (bN : Addr) (bA : Addr) (fN : Nat → Value) (fA : Nat → Value), own_B Z h n0 a1 p2 0 bN bA 0 0 fN fA
set_option maxRecDepth 65536 in
set_option maxHeartbeats 40000000 in
theorem rm1 (l : Launch) (Z : State) (a0 : Array Value) (hw : ∀ d ∈ tables_1, d.before a0 Z = true) (ws : List Jvm.Cond) (a1 : Addr) (p2 : Int32) (h0 : Heap) (n0 : Nat) (Z0 : n0 ≤ h0.size) (E1 : Exa Z h0 a1 "com/example/boxwise/boxwise/Dfa$Builder") (g_a1 : n0 ≤ a1) (F1 : Fld Z h0 a1 "com/example/boxwise/boxwise/Dfa$Builder" "next" "[I" .null) (F2 : Fld Z h0 a1 "com/example/boxwise/boxwise/Dfa$Builder" "accepting" "[Z" .null) (F3 : Fld Z h0 a1 "com/example/boxwise/boxwise/Dfa$Builder" "alphabetSize" "I" (.int 0)) (F4 : Fld Z h0 a1 "com/example/boxwise/boxwise/Dfa$Builder" "stateCount" "I" (.int 0)) :
    MetFree l (⟨"com/example/boxwise/boxwise/Dfa$Builder", "<init>", "(I)V"⟩ : MethodName) (head1 (Jvm.Cond.code (⟨"com/example/boxwise/boxwise/Dfa$Builder", "<init>", "(I)V"⟩ : MethodName) prog_18_method_1_code 2 none :: ws) ({ frames := 1, cells := 2, slots := 0, locals := 12 } : Room)) (fun a U => a = #[(.ref a1), (.int p2)] ∧ Z.Warmed39 U.vm ∧ U.heap = h0) (fun _ _ _ _ _ => True) (fun _ U o U' => ∃ v L, o = .returned v ∧ Q1 Z a1 p2 h0 n0 v U'.heap L ∧ FrameEnd U o U' L ({ frames := 1, cells := 2, slots := 0, locals := 12 } : Room).cells ({ frames := 1, cells := 2, slots := 0, locals := 12 } : Room).slots) := by
  refine MetFree.of_bodySF (plainFor_of_name pn_1) hisR ?_
  intro p e s m args below meth c s₁ Bd hml0 hP hK
  obtain ⟨rfl, hZ, hh⟩ := hP
  have hx := Bd.exec
  have hby := Bd.bytes
  have hml : c.maxLocals = 2 := hml0
  have hown : s.vm.findClass "com/example/boxwise/boxwise/Dfa$Builder" = some m.cls := findClass_of_methodNamed Bd.named
  have hnm := (name_of_methodNamed Bd.named Bd.method).1
  have X0 : Stand p l e ({ frames := 1, cells := 2, slots := 0, locals := 12 } : Room) s m #[(.ref a1), (.int p2)] below meth c s₁ [] 0 0 := Stand.of_body Bd
  have e0 : s₁.heap = h0 := by rw [← hh, Bd.state]; rfl
  have N0 := Fr.nil n0
  have a0s : ∀ t, Steps p.tables e below (s₁.setTop (mkF m 0 #[.val (.ref a1), .val (.int p2)] [])) t → Steps p.tables e below (s₁.setTop (entryFrame m #[(.ref a1), (.int p2)] 2)) t := fun t k => castTop (ef_rm1 m a1 p2) k
  have ac1 : ∀ t, Steps p.tables e below (s₁.setTop (mkF m 1 #[.val (.ref a1), .val (.int p2)] [(.ref a1)])) t → Steps p.tables e below (s₁.setTop (entryFrame m #[(.ref a1), (.int p2)] 2)) t := fun t k => a0s t (by
      show Steps p.tables e below (s₁.setTop (mkF m 0 #[.val (.ref a1), .val (.int p2)] [])) _
      refine XS.aloadN X0.here hx rfl (hb hby d1_0) rfl rfl ?_
      exact k)
  obtain ⟨T2, X2, e2, st2⟩ := initO X0 hx hZ hown (hw _ (List.mem_of_getElem? (i := 6) rfl)) (hw _ (List.mem_of_getElem? (i := 7) rfl)) (hw _ (List.mem_of_getElem? (i := 8) rfl)) e0 (g := (mkF m 1 #[.val (.ref a1), .val (.int p2)] [(.ref a1)])) rfl (by rw [hml]; rfl) rfl (hb hby d1_1) (by decide) (W := 0) (by show 2 * 0 + _ ≤ _; exact Nat.le_of_eq rfl) (by decide)
  have ac3 : ∀ t, Steps p.tables e below (T2.setTop (mkF m 4 #[.val (.ref a1), .val (.int p2)] [])) t → Steps p.tables e below (s₁.setTop (entryFrame m #[(.ref a1), (.int p2)] 2)) t := fun t k => ac1 t (st2 t k)
  have ac4 : ∀ t, Steps p.tables e below (T2.setTop (mkF m 6 #[.val (.ref a1), .val (.int p2)] [(.int (0 : Int32)), (.ref a1)])) t → Steps p.tables e below (s₁.setTop (entryFrame m #[(.ref a1), (.int p2)] 2)) t := fun t k => ac3 t (by
      show Steps p.tables e below (T2.setTop (mkF m 4 #[.val (.ref a1), .val (.int p2)] [])) _
      refine XS.aloadN X2.here hx rfl (hb hby d1_4) rfl rfl ?_
      show Steps p.tables e below (T2.setTop (mkF m 5 #[.val (.ref a1), .val (.int p2)] [(.ref a1)])) _
      refine XS.iconst X2.here hx rfl (hb hby d1_5) ?_
      exact k)
  obtain ⟨T5, h5, k5, X5, e5, E5, A5, st5⟩ := newP X2 hx hZ (hw _ (List.mem_of_getElem? (i := 9) rfl)) e2 (g := (mkF m 6 #[.val (.ref a1), .val (.int p2)] [(.int (0 : Int32)), (.ref a1)])) rfl (hb hby d1_6) rfl (by decide) (cap := 0) (by decide) (by decide) (by decide) (by decide)
  obtain ⟨b5, g5⟩ : ∃ z, z = h0.size := ⟨_, rfl⟩
  rw [← g5] at A5 st5
  have g_b5 : n0 ≤ b5 := Nat.le_trans Z0 (Nat.le_of_eq g5.symm)
  have sz_b5 : h0.size ≤ b5 := Nat.le_trans (Keep.refl h0 [a1]).1 (Nat.le_of_eq g5.symm)
  have ne_a1_b5 : a1 ≠ b5 := Nat.ne_of_lt (Nat.lt_of_lt_of_le E1.lt (Nat.le_of_eq g5.symm))
  have Ef6 := E1.ext E5
  have Ff7 := F1.ext E5
  have Ff8 := F2.ext E5
  have Ff9 := F3.ext E5
  have Ff10 := F4.ext E5
  have Z5 : n0 ≤ h5.size := Nat.le_trans Z0 E5.1
  have Kp11 : Keep h0 h5 [a1] := (Keep.refl h0 [a1]).ext E5
  have V5 : own_Ar Z h5 b5 .int 0 (fun _ => (.int (0 : Int32))) := own_Ar.new A5 rfl
  have ac12 : ∀ t, Steps p.tables e below (T5.setTop (mkF m 8 #[.val (.ref a1), .val (.int p2)] [(.ref b5), (.ref a1)])) t → Steps p.tables e below (s₁.setTop (entryFrame m #[(.ref a1), (.int p2)] 2)) t := fun t k => ac4 t (st5 t k)
  obtain ⟨T13, h13, X13, e13, W13, st13⟩ := putF X5 hx hZ hown (host := "") (Or.inl (hw _ (List.mem_of_getElem? (i := 10) rfl))) Via.refl e5 Ff7 Ef6 (Or.inl (hw _ (List.mem_of_getElem? (i := 11) rfl))) (hw _ (List.mem_of_getElem? (i := 1) rfl)) (ty := (.array .int)) (by decide) rfl rfl (g := (mkF m 8 #[.val (.ref a1), .val (.int p2)] [(.ref b5), (.ref a1)])) rfl rfl (hb hby d1_8)
  have Fw13 := Ff7.same W13
  have Ef14 := Ef6.wr W13
  have Ff15 := Ff8.other W13 (Or.inr (slot_ne (Or.inl (hw _ (List.mem_of_getElem? (i := 14) rfl))) (Or.inl (hw _ (List.mem_of_getElem? (i := 11) rfl))) (by decide) (t := (.array .boolean)) (t' := (.array .int)) (by decide) (by decide)))
  have Ff16 := Ff9.other W13 (Or.inr (slot_ne (Or.inr (hw _ (List.mem_of_getElem? (i := 16) rfl))) (Or.inl (hw _ (List.mem_of_getElem? (i := 11) rfl))) (by decide) (t := .int) (t' := (.array .int)) (by decide) (by decide)))
  have Ff17 := Ff10.other W13 (Or.inr (slot_ne (Or.inl (hw _ (List.mem_of_getElem? (i := 23) rfl))) (Or.inl (hw _ (List.mem_of_getElem? (i := 11) rfl))) (by decide) (t := .int) (t' := (.array .int)) (by decide) (by decide)))
  have Vf18 := V5.other W13 (Ne.symm ne_a1_b5)
  have N13 := Fr.snoc X13 N0 g_a1
  have Z13 : n0 ≤ h13.size := Nat.le_trans Z5 (Keep.of_wr W13).1
  have Kp19 : Keep h0 h13 [a1] := Kp11.wr W13 (Or.inl (List.mem_of_getElem? (i := 0) rfl))
  have ac20 : ∀ t, Steps p.tables e below (T13.setTop (mkF m 11 #[.val (.ref a1), .val (.int p2)] [])) t → Steps p.tables e below (s₁.setTop (entryFrame m #[(.ref a1), (.int p2)] 2)) t := fun t k => ac12 t (st13 t k)
  have ac21 : ∀ t, Steps p.tables e below (T13.setTop (mkF m 13 #[.val (.ref a1), .val (.int p2)] [(.int (0 : Int32)), (.ref a1)])) t → Steps p.tables e below (s₁.setTop (entryFrame m #[(.ref a1), (.int p2)] 2)) t := fun t k => ac20 t (by
      show Steps p.tables e below (T13.setTop (mkF m 11 #[.val (.ref a1), .val (.int p2)] [])) _
      refine XS.aloadN X13.here hx rfl (hb hby d1_11) rfl rfl ?_
      show Steps p.tables e below (T13.setTop (mkF m 12 #[.val (.ref a1), .val (.int p2)] [(.ref a1)])) _
      refine XS.iconst X13.here hx rfl (hb hby d1_12) ?_
      exact k)
  obtain ⟨T22, h22, k22, X22, e22, E22, A22, st22⟩ := newP X13 hx hZ (hw _ (List.mem_of_getElem? (i := 12) rfl)) e13 (g := (mkF m 13 #[.val (.ref a1), .val (.int p2)] [(.int (0 : Int32)), (.ref a1)])) rfl (hb hby d1_13) rfl (by decide) (cap := 0) (by decide) (by decide) (by decide) (by decide)
  obtain ⟨b22, g22⟩ : ∃ z, z = h13.size := ⟨_, rfl⟩
  rw [← g22] at A22 st22
  have g_b22 : n0 ≤ b22 := Nat.le_trans Z13 (Nat.le_of_eq g22.symm)
  have sz_b22 : h0.size ≤ b22 := Nat.le_trans Kp19.1 (Nat.le_of_eq g22.symm)
  have ne_a1_b22 : a1 ≠ b22 := Nat.ne_of_lt (Nat.lt_of_lt_of_le Ef14.lt (Nat.le_of_eq g22.symm))
  have ne_b5_b22 : b5 ≠ b22 := Nat.ne_of_lt (Nat.lt_of_lt_of_le Vf18.lt (Nat.le_of_eq g22.symm))
  have Ef23 := Ef14.ext E22
  have Ff24 := Ff15.ext E22
  have Ff25 := Ff16.ext E22
  have Ff26 := Ff17.ext E22
  have Vf27 := Vf18.ext E22
  have Ff28 := Fw13.ext E22
  have Z22 : n0 ≤ h22.size := Nat.le_trans Z13 E22.1
  have Kp29 : Keep h0 h22 [a1] := Kp19.ext E22
  have V22 : own_Ar Z h22 b22 .boolean 0 (fun _ => (.int (0 : Int32))) := own_Ar.new A22 rfl
  have ac30 : ∀ t, Steps p.tables e below (T22.setTop (mkF m 15 #[.val (.ref a1), .val (.int p2)] [(.ref b22), (.ref a1)])) t → Steps p.tables e below (s₁.setTop (entryFrame m #[(.ref a1), (.int p2)] 2)) t := fun t k => ac21 t (st22 t k)
  obtain ⟨T31, h31, X31, e31, W31, st31⟩ := putF X22 hx hZ hown (host := "") (Or.inl (hw _ (List.mem_of_getElem? (i := 13) rfl))) Via.refl e22 Ff24 Ef23 (Or.inl (hw _ (List.mem_of_getElem? (i := 14) rfl))) (hw _ (List.mem_of_getElem? (i := 1) rfl)) (ty := (.array .boolean)) (by decide) rfl rfl (g := (mkF m 15 #[.val (.ref a1), .val (.int p2)] [(.ref b22), (.ref a1)])) rfl rfl (hb hby d1_15)
  have Fw31 := Ff24.same W31
  have Ef32 := Ef23.wr W31
  have Ff33 := Ff25.other W31 (Or.inr (slot_ne (Or.inr (hw _ (List.mem_of_getElem? (i := 16) rfl))) (Or.inl (hw _ (List.mem_of_getElem? (i := 14) rfl))) (by decide) (t := .int) (t' := (.array .boolean)) (by decide) (by decide)))
  have Ff34 := Ff26.other W31 (Or.inr (slot_ne (Or.inl (hw _ (List.mem_of_getElem? (i := 23) rfl))) (Or.inl (hw _ (List.mem_of_getElem? (i := 14) rfl))) (by decide) (t := .int) (t' := (.array .boolean)) (by decide) (by decide)))
  have Vf35 := Vf27.other W31 (Ne.symm ne_a1_b5)
  have Ff36 := Ff28.other W31 (Or.inr (slot_ne (Or.inl (hw _ (List.mem_of_getElem? (i := 11) rfl))) (Or.inl (hw _ (List.mem_of_getElem? (i := 14) rfl))) (by decide) (t := (.array .int)) (t' := (.array .boolean)) (by decide) (by decide)))
  have Vf37 := V22.other W31 (Ne.symm ne_a1_b22)
  have N31 := Fr.snoc X31 N13 g_a1
  have Z31 : n0 ≤ h31.size := Nat.le_trans Z22 (Keep.of_wr W31).1
  have Kp38 : Keep h0 h31 [a1] := Kp29.wr W31 (Or.inl (List.mem_of_getElem? (i := 0) rfl))
  have ac39 : ∀ t, Steps p.tables e below (T31.setTop (mkF m 18 #[.val (.ref a1), .val (.int p2)] [])) t → Steps p.tables e below (s₁.setTop (entryFrame m #[(.ref a1), (.int p2)] 2)) t := fun t k => ac30 t (st31 t k)
  have ac40 : ∀ t, Steps p.tables e below (T31.setTop (mkF m 20 #[.val (.ref a1), .val (.int p2)] [(.int p2), (.ref a1)])) t → Steps p.tables e below (s₁.setTop (entryFrame m #[(.ref a1), (.int p2)] 2)) t := fun t k => ac39 t (by
      show Steps p.tables e below (T31.setTop (mkF m 18 #[.val (.ref a1), .val (.int p2)] [])) _
      refine XS.aloadN X31.here hx rfl (hb hby d1_18) rfl rfl ?_
      show Steps p.tables e below (T31.setTop (mkF m 19 #[.val (.ref a1), .val (.int p2)] [(.ref a1)])) _
      refine XS.iloadN X31.here hx rfl (hb hby d1_19) rfl ?_
      exact k)
  obtain ⟨T41, h41, X41, e41, W41, st41⟩ := putF X31 hx hZ hown (host := "") (Or.inl (hw _ (List.mem_of_getElem? (i := 15) rfl))) Via.refl e31 Ff33 Ef32 (Or.inr ⟨(hw _ (List.mem_of_getElem? (i := 16) rfl)), rfl, hnm⟩) (hw _ (List.mem_of_getElem? (i := 1) rfl)) (ty := .int) (by decide) rfl rfl (g := (mkF m 20 #[.val (.ref a1), .val (.int p2)] [(.int p2), (.ref a1)])) rfl rfl (hb hby d1_20)
  have Fw41 := Ff33.same W41
  have Ef42 := Ef32.wr W41
  have Ff43 := Ff34.other W41 (Or.inr (slot_ne (Or.inl (hw _ (List.mem_of_getElem? (i := 23) rfl))) (Or.inr (hw _ (List.mem_of_getElem? (i := 16) rfl))) (by decide) (t := .int) (t' := .int) (by decide) (by decide)))
  have Vf44 := Vf35.other W41 (Ne.symm ne_a1_b5)
  have Ff45 := Ff36.other W41 (Or.inr (slot_ne (Or.inl (hw _ (List.mem_of_getElem? (i := 11) rfl))) (Or.inr (hw _ (List.mem_of_getElem? (i := 16) rfl))) (by decide) (t := (.array .int)) (t' := .int) (by decide) (by decide)))
  have Vf46 := Vf37.other W41 (Ne.symm ne_a1_b22)
  have Ff47 := Fw31.other W41 (Or.inr (slot_ne (Or.inl (hw _ (List.mem_of_getElem? (i := 14) rfl))) (Or.inr (hw _ (List.mem_of_getElem? (i := 16) rfl))) (by decide) (t := (.array .boolean)) (t' := .int) (by decide) (by decide)))
  have N41 := Fr.snoc X41 N31 g_a1
  have Z41 : n0 ≤ h41.size := Nat.le_trans Z31 (Keep.of_wr W41).1
  have Kp48 : Keep h0 h41 [a1] := Kp38.wr W41 (Or.inl (List.mem_of_getElem? (i := 0) rfl))
  have ac49 : ∀ t, Steps p.tables e below (T41.setTop (mkF m 23 #[.val (.ref a1), .val (.int p2)] [])) t → Steps p.tables e below (s₁.setTop (entryFrame m #[(.ref a1), (.int p2)] 2)) t := fun t k => ac40 t (st41 t k)
  obtain ⟨fs, hr, hrun, hended, hW, hsame⟩ := X41.leave (v := none) (fun _ => rfl) (BodyLoose.notSynchronized Bd)
  refine ⟨_, _, ac49 _ ?_, hrun, hended, _, _, rfl, ?_, ⟨_, rfl⟩, hW, hsame.mono (by decide) (by decide)⟩
  · show Steps p.tables e below (T41.setTop (mkF m 23 #[.val (.ref a1), .val (.int p2)] [])) _
    exact X41.returnOut hx Bd.returns (hb hby d1_23) hr
  · show Q1 Z a1 p2 h0 n0 _ T41.heap _
    rw [e41]
    exact ⟨rfl, N41, Kp48, b5, b22, _, _, ⟨Ef42, Ff45, Ff47, Fw41, Ff43, Vf44, Vf46, ne_a1_b5, ne_a1_b22, ne_b5_b22, g_b5, g_b22⟩⟩
theorem ef_rm3g (m : MethodId) (x0 : Addr) (x1 : Int32) : entryFrame m #[(.ref x0), (.int x1)] 4 = mkF m 0 #[.val (.ref x0), .val (.int x1), .unset, .unset] [] := by first | (simp [entryFrame, mkF, argsToLocals, Value.category]; done) | rfl
def Q3g (Z : State) (a1 : Addr) (p2 : Int32) (al : Int32) (bN : Addr) (bA : Addr) (fN : Nat → Value) (fA : Nat → Value) (an : Nat) (h0 : Heap) (n0 : Nat) (v : Option Value) (h : Heap) (L : List Loc) : Prop := ∃ (bN' : Addr) (bA' : Addr) (fA' : Nat → Value), v = some (.int 0) ∧ Fr n0 L ∧ Keep h0 h [a1] ∧ own_B Z h n0 a1 al ((0 : Int32) + (1 : Int32)) bN' bA' (16 * an) 16 (fun _ => .int (-1)) fA'
set_option maxRecDepth 65536 in
set_option maxHeartbeats 40000000 in
theorem rm3g (l : Launch) (Z : State) (a0 : Array Value) (hw : ∀ d ∈ tables_1, d.before a0 Z = true) (ws : List Jvm.Cond) (a1 : Addr) (p2 : Int32) (al : Int32) (bN : Addr) (bA : Addr) (fN : Nat → Value) (fA : Nat → Value) (an : Nat) (h0 : Heap) (n0 : Nat) (Z0 : n0 ≤ h0.size) (HB : own_B Z h0 n0 a1 al 0 bN bA 0 0 fN fA) (hal : al.toInt = an) (h1a : 1 ≤ an) (h8a : an ≤ 8) (g_a1 : n0 ≤ a1) :
    MetFree l (⟨"com/example/boxwise/boxwise/Dfa$Builder", "addState", "(Z)I"⟩ : MethodName) (head1 (Jvm.Cond.code (⟨"com/example/boxwise/boxwise/Dfa$Builder", "addState", "(Z)I"⟩ : MethodName) prog_18_method_2_code 4 (some .int) :: ws) ({ frames := 2, cells := 2, slots := 144, locals := 33 } : Room)) (fun a U => a = #[(.ref a1), (.int p2)] ∧ Z.Warmed39 U.vm ∧ U.heap = h0) (fun _ _ _ _ _ => True) (fun _ U o U' => ∃ v L, o = .returned v ∧ Q3g Z a1 p2 al bN bA fN fA an h0 n0 v U'.heap L ∧ FrameEnd U o U' L ({ frames := 2, cells := 2, slots := 144, locals := 33 } : Room).cells ({ frames := 2, cells := 2, slots := 144, locals := 33 } : Room).slots) := by
  refine MetFree.of_bodySF (plainFor_of_name pn_3) hisR ?_
  intro p e s m args below meth c s₁ Bd hml0 hP hK
  obtain ⟨rfl, hZ, hh⟩ := hP
  have hx := Bd.exec
  have hby := Bd.bytes
  have hml : c.maxLocals = 4 := hml0
  have hown : s.vm.findClass "com/example/boxwise/boxwise/Dfa$Builder" = some m.cls := findClass_of_methodNamed Bd.named
  have hnm := (name_of_methodNamed Bd.named Bd.method).1
  have X0 : Stand p l e ({ frames := 2, cells := 2, slots := 144, locals := 33 } : Room) s m #[(.ref a1), (.int p2)] below meth c s₁ [] 0 0 := Stand.of_body Bd
  have e0 : s₁.heap = h0 := by rw [← hh, Bd.state]; rfl
  have N0 := Fr.nil n0
  have a0s : ∀ t, Steps p.tables e below (s₁.setTop (mkF m 0 #[.val (.ref a1), .val (.int p2), .unset, .unset] [])) t → Steps p.tables e below (s₁.setTop (entryFrame m #[(.ref a1), (.int p2)] 4)) t := fun t k => castTop (ef_rm3g m a1 p2) k
  obtain ⟨E1, F_n, F_a, F_s, F_c, V_N, V_A, ne_a1_bN, ne_a1_bA, ne_bN_bA, g_bN, g_bA⟩ := HB
  have ac1 : ∀ t, Steps p.tables e below (s₁.setTop (mkF m 1 #[.val (.ref a1), .val (.int p2), .unset, .unset] [(.ref a1)])) t → Steps p.tables e below (s₁.setTop (entryFrame m #[(.ref a1), (.int p2)] 4)) t := fun t k => a0s t (by
      show Steps p.tables e below (s₁.setTop (mkF m 0 #[.val (.ref a1), .val (.int p2), .unset, .unset] [])) _
      refine XS.aloadN X0.here hx rfl (hb hby d3_0) rfl rfl ?_
      exact k)
  obtain ⟨T2, X2, e2, st2⟩ := getF X0 hx hZ hown (host := "") (Or.inl (hw _ (List.mem_of_getElem? (i := 22) rfl))) Via.refl e0 F_c (g := (mkF m 1 #[.val (.ref a1), .val (.int p2), .unset, .unset] [(.ref a1)])) rfl rfl (hb hby d3_1)
  have ac3 : ∀ t, Steps p.tables e below (T2.setTop (mkF m 4 #[.val (.ref a1), .val (.int p2), .unset, .unset] [(.int (0 : Int32))])) t → Steps p.tables e below (s₁.setTop (entryFrame m #[(.ref a1), (.int p2)] 4)) t := fun t k => ac1 t (st2 t k)
  have ac4 : ∀ t, Steps p.tables e below (T2.setTop (mkF m 5 #[.val (.ref a1), .val (.int p2), .unset, .unset] [(.ref a1), (.int (0 : Int32))])) t → Steps p.tables e below (s₁.setTop (entryFrame m #[(.ref a1), (.int p2)] 4)) t := fun t k => ac3 t (by
      show Steps p.tables e below (T2.setTop (mkF m 4 #[.val (.ref a1), .val (.int p2), .unset, .unset] [(.int (0 : Int32))])) _
      refine XS.aloadN X2.here hx rfl (hb hby d3_4) rfl rfl ?_
      exact k)
  obtain ⟨T5, X5, e5, st5⟩ := getF X2 hx hZ hown (host := "") (Or.inl (hw _ (List.mem_of_getElem? (i := 13) rfl))) Via.refl e2 F_a (g := (mkF m 5 #[.val (.ref a1), .val (.int p2), .unset, .unset] [(.ref a1), (.int (0 : Int32))])) rfl rfl (hb hby d3_5)
  have ac6 : ∀ t, Steps p.tables e below (T5.setTop (mkF m 8 #[.val (.ref a1), .val (.int p2), .unset, .unset] [(.ref bA), (.int (0 : Int32))])) t → Steps p.tables e below (s₁.setTop (entryFrame m #[(.ref a1), (.int p2)] 4)) t := fun t k => ac4 t (st5 t k)
  obtain ⟨cl7, Ac7, hl7, hb7⟩ := V_A.len
  have ac8 : ∀ t, Steps p.tables e below (T5.setTop (mkF m 15 #[.val (.ref a1), .val (.int p2), .unset, .unset] [(.ref a1), (.int (16 : Int32))])) t → Steps p.tables e below (s₁.setTop (entryFrame m #[(.ref a1), (.int p2)] 4)) t := fun t k => ac6 t (by
      show Steps p.tables e below (T5.setTop (mkF m 8 #[.val (.ref a1), .val (.int p2), .unset, .unset] [(.ref bA), (.int (0 : Int32))])) _
      refine X5.arraylength hx (by rw [e5]; exact Ac7.1) (State.isArrayOf_alike hZ.alike Ac7.2.1) (g := (mkF m 8 #[.val (.ref a1), .val (.int p2), .unset, .unset] [(.ref bA), (.int (0 : Int32))])) rfl rfl (hb hby d3_8) _ ?_
      rw [hl7]
      show Steps p.tables e below (T5.setTop (mkF m 9 #[.val (.ref a1), .val (.int p2), .unset, .unset] [(.int (Int32.ofNat 0)), (.int (0 : Int32))])) _
      refine XS.icmpNo X5.here hx rfl (hb hby d3_9) rfl (teq rfl).2 ?_
      show Steps p.tables e below (T5.setTop (mkF m 12 #[.val (.ref a1), .val (.int p2), .unset, .unset] [])) _
      refine XS.bipush X5.here hx rfl (hb hby d3_12) ?_
      show Steps p.tables e below (T5.setTop (mkF m 14 #[.val (.ref a1), .val (.int p2), .unset, .unset] [(.int (16 : Int32))])) _
      refine XS.aloadN X5.here hx rfl (hb hby d3_14) rfl rfl ?_
      exact k)
  obtain ⟨T9, X9, e9, st9⟩ := getF X5 hx hZ hown (host := "") (Or.inl (hw _ (List.mem_of_getElem? (i := 22) rfl))) Via.refl e5 F_c (g := (mkF m 15 #[.val (.ref a1), .val (.int p2), .unset, .unset] [(.ref a1), (.int (16 : Int32))])) rfl rfl (hb hby d3_15)
  have ac10 : ∀ t, Steps p.tables e below (T9.setTop (mkF m 18 #[.val (.ref a1), .val (.int p2), .unset, .unset] [(.int (0 : Int32)), (.int (16 : Int32))])) t → Steps p.tables e below (s₁.setTop (entryFrame m #[(.ref a1), (.int p2)] 4)) t := fun t k => ac8 t (st9 t k)
  have ac11 : ∀ t, Steps p.tables e below (T9.setTop (mkF m 20 #[.val (.ref a1), .val (.int p2), .unset, .unset] [(.int ((0 : Int32) * (2 : Int32))), (.int (16 : Int32))])) t → Steps p.tables e below (s₁.setTop (entryFrame m #[(.ref a1), (.int p2)] 4)) t := fun t k => ac10 t (by
      show Steps p.tables e below (T9.setTop (mkF m 18 #[.val (.ref a1), .val (.int p2), .unset, .unset] [(.int (0 : Int32)), (.int (16 : Int32))])) _
      refine XS.iconst X9.here hx rfl (hb hby d3_18) ?_
      show Steps p.tables e below (T9.setTop (mkF m 19 #[.val (.ref a1), .val (.int p2), .unset, .unset] [(.int (2 : Int32)), (.int (0 : Int32)), (.int (16 : Int32))])) _
      refine XS.imul X9.here hx rfl (hb hby d3_19) rfl ?_
      exact k)
  obtain ⟨_, _, ⟨T12, L12, k12, n12⟩, -, X12, ⟨Lc12, hQ12, l12, y12, z12⟩, st12⟩ := Jvm.LawKit.callS X9 hx (y := (⟨"java/lang/Math", "max", "(II)I"⟩ : MethodName)) hown (mvT hZ (hw _ (List.mem_of_getElem? (i := 24) rfl))) (mvT hZ (hw _ (List.mem_of_getElem? (i := 25) rfl))) (mvT hZ (hw _ (List.mem_of_getElem? (i := 26) rfl))) (mvT hZ (hw _ (List.mem_of_getElem? (i := 27) rfl))) (by decide) (backOf (W := 0) (rm4 l Z a0 hw [] (16 : Int32) ((0 : Int32) * (2 : Int32))  h0 n0 Z0 ) hZ (hw _ (List.mem_of_getElem? (i := 27) rfl)) (hw _ (List.mem_of_getElem? (i := 26) rfl)) (by decide) (by decide)) (g := (mkF m 20 #[.val (.ref a1), .val (.int p2), .unset, .unset] [(.int ((0 : Int32) * (2 : Int32))), (.int (16 : Int32))])) rfl (by rw [hml]; rfl) (argsL := [(.int (16 : Int32)), (.int ((0 : Int32) * (2 : Int32)))]) (rest := []) (lenOf pd_3 rfl) rfl (by show 2 * 0 + _ ≤ _; exact Nat.le_of_eq rfl) (hb hby d3_20) (fun _ _ => ⟨rfl, e9, (by decide : 0 + 0 ≤ _), (by decide : 0 + 0 ≤ _)⟩)
  dsimp only [Pt.U, Pt.locs, Pt.cells, Pt.slots] at X12 l12 y12 z12 st12 hQ12
  subst l12 y12 z12
  obtain ⟨rfl, N12q, Qe12⟩ := hQ12
  have N12 := Fr.app N0 N12q
  have ac13 : ∀ t, Steps p.tables e below (T12.setTop (mkF m 23 #[.val (.ref a1), .val (.int p2), .unset, .unset] [(.int (own_max (16 : Int32) ((0 : Int32) * (2 : Int32))))])) t → Steps p.tables e below (s₁.setTop (entryFrame m #[(.ref a1), (.int p2)] 4)) t := fun t k => ac11 t (st12 t k)
  rw [own_m16] at ac13
  have ac14 : ∀ t, Steps p.tables e below (T12.setTop (mkF m 26 #[.val (.ref a1), .val (.int p2), .val (.int (16 : Int32)), .unset] [(.ref a1), (.ref a1)])) t → Steps p.tables e below (s₁.setTop (entryFrame m #[(.ref a1), (.int p2)] 4)) t := fun t k => ac13 t (by
      show Steps p.tables e below (T12.setTop (mkF m 23 #[.val (.ref a1), .val (.int p2), .unset, .unset] [(.int (16 : Int32))])) _
      refine XS.istoreN X12.here hx rfl (hb hby d3_23) rfl (l' := #[.val (.ref a1), .val (.int p2), .val (.int (16 : Int32)), .unset]) rfl ?_
      show Steps p.tables e below (T12.setTop (mkF m 24 #[.val (.ref a1), .val (.int p2), .val (.int (16 : Int32)), .unset] [])) _
      refine XS.aloadN X12.here hx rfl (hb hby d3_24) rfl rfl ?_
      show Steps p.tables e below (T12.setTop (mkF m 25 #[.val (.ref a1), .val (.int p2), .val (.int (16 : Int32)), .unset] [(.ref a1)])) _
      refine XS.aloadN X12.here hx rfl (hb hby d3_25) rfl rfl ?_
      exact k)
  obtain ⟨T15, X15, e15, st15⟩ := getF X12 hx hZ hown (host := "") (Or.inl (hw _ (List.mem_of_getElem? (i := 13) rfl))) Via.refl Qe12 F_a (g := (mkF m 26 #[.val (.ref a1), .val (.int p2), .val (.int (16 : Int32)), .unset] [(.ref a1), (.ref a1)])) rfl rfl (hb hby d3_26)
  have ac16 : ∀ t, Steps p.tables e below (T15.setTop (mkF m 29 #[.val (.ref a1), .val (.int p2), .val (.int (16 : Int32)), .unset] [(.ref bA), (.ref a1)])) t → Steps p.tables e below (s₁.setTop (entryFrame m #[(.ref a1), (.int p2)] 4)) t := fun t k => ac14 t (st15 t k)
  have ac17 : ∀ t, Steps p.tables e below (T15.setTop (mkF m 30 #[.val (.ref a1), .val (.int p2), .val (.int (16 : Int32)), .unset] [(.int (16 : Int32)), (.ref bA), (.ref a1)])) t → Steps p.tables e below (s₁.setTop (entryFrame m #[(.ref a1), (.int p2)] 4)) t := fun t k => ac16 t (by
      show Steps p.tables e below (T15.setTop (mkF m 29 #[.val (.ref a1), .val (.int p2), .val (.int (16 : Int32)), .unset] [(.ref bA), (.ref a1)])) _
      refine XS.iloadN X15.here hx rfl (hb hby d3_29) rfl ?_
      exact k)
  obtain ⟨_, _, ⟨T18, L18, k18, n18⟩, -, X18, ⟨Lc18, hQ18, l18, y18, z18⟩, st18⟩ := Jvm.LawKit.callS X15 hx (y := (⟨"java/util/Arrays", "copyOf", "([ZI)[Z"⟩ : MethodName)) hown (mvT hZ (hw _ (List.mem_of_getElem? (i := 28) rfl))) (mvT hZ (hw _ (List.mem_of_getElem? (i := 29) rfl))) (mvT hZ (hw _ (List.mem_of_getElem? (i := 30) rfl))) (mvT hZ (hw _ (List.mem_of_getElem? (i := 31) rfl))) (by decide) (backOf (W := 1) (rm5 l Z a0 hw [] bA (16 : Int32) 0 16 fA h0 n0 Z0 V_A rfl (by decide) (by decide)) hZ (hw _ (List.mem_of_getElem? (i := 31) rfl)) (hw _ (List.mem_of_getElem? (i := 30) rfl)) (by decide) (by decide)) (g := (mkF m 30 #[.val (.ref a1), .val (.int p2), .val (.int (16 : Int32)), .unset] [(.int (16 : Int32)), (.ref bA), (.ref a1)])) rfl (by rw [hml]; rfl) (argsL := [(.ref bA), (.int (16 : Int32))]) (rest := [(.ref a1)]) (lenOf pd_4 rfl) rfl (by show 2 * 0 + _ ≤ _; exact Nat.le_of_eq rfl) (hb hby d3_30) (fun _ _ => ⟨rfl, e15, (by decide : 0 + 1 ≤ _), (by decide : 0 + 16 ≤ _)⟩)
  dsimp only [Pt.U, Pt.locs, Pt.cells, Pt.slots] at X18 l18 y18 z18 st18 hQ18
  subst l18 y18 z18
  obtain ⟨r18, rfl, N18q, K18q, sz18, Vr18⟩ := hQ18
  have N18 := Fr.app N12 N18q
  have Ef19 := E1.keep K18q
  have Ff20 := F_n.keep K18q nin0
  have Ff21 := F_a.keep K18q nin0
  have Ff22 := F_s.keep K18q nin0
  have Ff23 := F_c.keep K18q nin0
  have Vf24 := V_N.keep K18q nin0
  have Vf25 := V_A.keep K18q nin0
  have Z18 : n0 ≤ T18.heap.size := Nat.le_trans Z0 K18q.1
  have Kp26 : Keep h0 T18.heap [a1] := (Keep.refl h0 [a1]).trans K18q all0
  have g_r18 : n0 ≤ r18 := Nat.le_trans Z0 sz18
  have sz_r18 : h0.size ≤ r18 := Nat.le_trans (Keep.refl h0 [a1]).1 sz18
  have ne_a1_r18 : a1 ≠ r18 := Nat.ne_of_lt (Nat.lt_of_lt_of_le E1.lt sz18)
  have ne_bN_r18 : bN ≠ r18 := Nat.ne_of_lt (Nat.lt_of_lt_of_le V_N.lt sz18)
  have ne_bA_r18 : bA ≠ r18 := Nat.ne_of_lt (Nat.lt_of_lt_of_le V_A.lt sz18)
  have ac27 : ∀ t, Steps p.tables e below (T18.setTop (mkF m 33 #[.val (.ref a1), .val (.int p2), .val (.int (16 : Int32)), .unset] [(.ref r18), (.ref a1)])) t → Steps p.tables e below (s₁.setTop (entryFrame m #[(.ref a1), (.int p2)] 4)) t := fun t k => ac17 t (st18 t k)
  obtain ⟨T28, h28, X28, e28, W28, st28⟩ := putF X18 hx hZ hown (host := "") (Or.inl (hw _ (List.mem_of_getElem? (i := 13) rfl))) Via.refl rfl Ff21 Ef19 (Or.inl (hw _ (List.mem_of_getElem? (i := 14) rfl))) (hw _ (List.mem_of_getElem? (i := 1) rfl)) (ty := (.array .boolean)) (by decide) rfl rfl (g := (mkF m 33 #[.val (.ref a1), .val (.int p2), .val (.int (16 : Int32)), .unset] [(.ref r18), (.ref a1)])) rfl rfl (hb hby d3_33)
  have Fw28 := Ff21.same W28
  have Ef29 := Ef19.wr W28
  have Ff30 := Ff20.other W28 (Or.inr (slot_ne (Or.inl (hw _ (List.mem_of_getElem? (i := 11) rfl))) (Or.inl (hw _ (List.mem_of_getElem? (i := 14) rfl))) (by decide) (t := (.array .int)) (t' := (.array .boolean)) (by decide) (by decide)))
  have Ff31 := Ff22.other W28 (Or.inr (slot_ne (Or.inr (hw _ (List.mem_of_getElem? (i := 16) rfl))) (Or.inl (hw _ (List.mem_of_getElem? (i := 14) rfl))) (by decide) (t := .int) (t' := (.array .boolean)) (by decide) (by decide)))
  have Ff32 := Ff23.other W28 (Or.inr (slot_ne (Or.inl (hw _ (List.mem_of_getElem? (i := 23) rfl))) (Or.inl (hw _ (List.mem_of_getElem? (i := 14) rfl))) (by decide) (t := .int) (t' := (.array .boolean)) (by decide) (by decide)))
  have Vf33 := Vf24.other W28 (Ne.symm ne_a1_bN)
  have Vf34 := Vr18.other W28 (Ne.symm ne_a1_r18)
  have N28 := Fr.snoc X28 N18 g_a1
  have Z28 : n0 ≤ h28.size := Nat.le_trans Z18 (Keep.of_wr W28).1
  have Kp35 : Keep h0 h28 [a1] := Kp26.wr W28 (Or.inl (List.mem_of_getElem? (i := 0) rfl))
  have ac36 : ∀ t, Steps p.tables e below (T28.setTop (mkF m 36 #[.val (.ref a1), .val (.int p2), .val (.int (16 : Int32)), .unset] [])) t → Steps p.tables e below (s₁.setTop (entryFrame m #[(.ref a1), (.int p2)] 4)) t := fun t k => ac27 t (st28 t k)
  have ac37 : ∀ t, Steps p.tables e below (T28.setTop (mkF m 37 #[.val (.ref a1), .val (.int p2), .val (.int (16 : Int32)), .unset] [(.ref a1)])) t → Steps p.tables e below (s₁.setTop (entryFrame m #[(.ref a1), (.int p2)] 4)) t := fun t k => ac36 t (by
      show Steps p.tables e below (T28.setTop (mkF m 36 #[.val (.ref a1), .val (.int p2), .val (.int (16 : Int32)), .unset] [])) _
      refine XS.aloadN X28.here hx rfl (hb hby d3_36) rfl rfl ?_
      exact k)
  obtain ⟨T38, X38, e38, st38⟩ := getF X28 hx hZ hown (host := "") (Or.inl (hw _ (List.mem_of_getElem? (i := 10) rfl))) Via.refl e28 Ff30 (g := (mkF m 37 #[.val (.ref a1), .val (.int p2), .val (.int (16 : Int32)), .unset] [(.ref a1)])) rfl rfl (hb hby d3_37)
  have ac39 : ∀ t, Steps p.tables e below (T38.setTop (mkF m 40 #[.val (.ref a1), .val (.int p2), .val (.int (16 : Int32)), .unset] [(.ref bN)])) t → Steps p.tables e below (s₁.setTop (entryFrame m #[(.ref a1), (.int p2)] 4)) t := fun t k => ac37 t (st38 t k)
  obtain ⟨cl40, Ac40, hl40, hb40⟩ := Vf33.len
  have ac41 : ∀ t, Steps p.tables e below (T38.setTop (mkF m 44 #[.val (.ref a1), .val (.int p2), .val (.int (16 : Int32)), .val (.int (Int32.ofNat 0))] [(.ref a1), (.ref a1)])) t → Steps p.tables e below (s₁.setTop (entryFrame m #[(.ref a1), (.int p2)] 4)) t := fun t k => ac39 t (by
      show Steps p.tables e below (T38.setTop (mkF m 40 #[.val (.ref a1), .val (.int p2), .val (.int (16 : Int32)), .unset] [(.ref bN)])) _
      refine X38.arraylength hx (by rw [e38]; exact Ac40.1) (State.isArrayOf_alike hZ.alike Ac40.2.1) (g := (mkF m 40 #[.val (.ref a1), .val (.int p2), .val (.int (16 : Int32)), .unset] [(.ref bN)])) rfl rfl (hb hby d3_40) _ ?_
      rw [hl40]
      show Steps p.tables e below (T38.setTop (mkF m 41 #[.val (.ref a1), .val (.int p2), .val (.int (16 : Int32)), .unset] [(.int (Int32.ofNat 0))])) _
      refine XS.istoreN X38.here hx rfl (hb hby d3_41) rfl (l' := #[.val (.ref a1), .val (.int p2), .val (.int (16 : Int32)), .val (.int (Int32.ofNat 0))]) rfl ?_
      show Steps p.tables e below (T38.setTop (mkF m 42 #[.val (.ref a1), .val (.int p2), .val (.int (16 : Int32)), .val (.int (Int32.ofNat 0))] [])) _
      refine XS.aloadN X38.here hx rfl (hb hby d3_42) rfl rfl ?_
      show Steps p.tables e below (T38.setTop (mkF m 43 #[.val (.ref a1), .val (.int p2), .val (.int (16 : Int32)), .val (.int (Int32.ofNat 0))] [(.ref a1)])) _
      refine XS.aloadN X38.here hx rfl (hb hby d3_43) rfl rfl ?_
      exact k)
  obtain ⟨T42, X42, e42, st42⟩ := getF X38 hx hZ hown (host := "") (Or.inl (hw _ (List.mem_of_getElem? (i := 10) rfl))) Via.refl e38 Ff30 (g := (mkF m 44 #[.val (.ref a1), .val (.int p2), .val (.int (16 : Int32)), .val (.int (Int32.ofNat 0))] [(.ref a1), (.ref a1)])) rfl rfl (hb hby d3_44)
  have ac43 : ∀ t, Steps p.tables e below (T42.setTop (mkF m 47 #[.val (.ref a1), .val (.int p2), .val (.int (16 : Int32)), .val (.int (Int32.ofNat 0))] [(.ref bN), (.ref a1)])) t → Steps p.tables e below (s₁.setTop (entryFrame m #[(.ref a1), (.int p2)] 4)) t := fun t k => ac41 t (st42 t k)
  have ac44 : ∀ t, Steps p.tables e below (T42.setTop (mkF m 49 #[.val (.ref a1), .val (.int p2), .val (.int (16 : Int32)), .val (.int (Int32.ofNat 0))] [(.ref a1), (.int (16 : Int32)), (.ref bN), (.ref a1)])) t → Steps p.tables e below (s₁.setTop (entryFrame m #[(.ref a1), (.int p2)] 4)) t := fun t k => ac43 t (by
      show Steps p.tables e below (T42.setTop (mkF m 47 #[.val (.ref a1), .val (.int p2), .val (.int (16 : Int32)), .val (.int (Int32.ofNat 0))] [(.ref bN), (.ref a1)])) _
      refine XS.iloadN X42.here hx rfl (hb hby d3_47) rfl ?_
      show Steps p.tables e below (T42.setTop (mkF m 48 #[.val (.ref a1), .val (.int p2), .val (.int (16 : Int32)), .val (.int (Int32.ofNat 0))] [(.int (16 : Int32)), (.ref bN), (.ref a1)])) _
      refine XS.aloadN X42.here hx rfl (hb hby d3_48) rfl rfl ?_
      exact k)
  obtain ⟨T45, X45, e45, st45⟩ := getF X42 hx hZ hown (host := "") (Or.inl (hw _ (List.mem_of_getElem? (i := 15) rfl))) Via.refl e42 Ff31 (g := (mkF m 49 #[.val (.ref a1), .val (.int p2), .val (.int (16 : Int32)), .val (.int (Int32.ofNat 0))] [(.ref a1), (.int (16 : Int32)), (.ref bN), (.ref a1)])) rfl rfl (hb hby d3_49)
  have ac46 : ∀ t, Steps p.tables e below (T45.setTop (mkF m 52 #[.val (.ref a1), .val (.int p2), .val (.int (16 : Int32)), .val (.int (Int32.ofNat 0))] [(.int al), (.int (16 : Int32)), (.ref bN), (.ref a1)])) t → Steps p.tables e below (s₁.setTop (entryFrame m #[(.ref a1), (.int p2)] 4)) t := fun t k => ac44 t (st45 t k)
  have cm := c_imul 16 al
  have rm16 := rng32 (16 * al)
  have z16 : (16 : Int32).toInt = 16 := rfl
  rw [z16, hal] at cm
  have hm : ((16 : Int32) * al).toInt = (16 * an : Nat) := by omega
  have ac47 : ∀ t, Steps p.tables e below (T45.setTop (mkF m 53 #[.val (.ref a1), .val (.int p2), .val (.int (16 : Int32)), .val (.int (Int32.ofNat 0))] [(.int ((16 : Int32) * al)), (.ref bN), (.ref a1)])) t → Steps p.tables e below (s₁.setTop (entryFrame m #[(.ref a1), (.int p2)] 4)) t := fun t k => ac46 t (by
      show Steps p.tables e below (T45.setTop (mkF m 52 #[.val (.ref a1), .val (.int p2), .val (.int (16 : Int32)), .val (.int (Int32.ofNat 0))] [(.int al), (.int (16 : Int32)), (.ref bN), (.ref a1)])) _
      refine XS.imul X45.here hx rfl (hb hby d3_52) rfl ?_
      exact k)
  obtain ⟨_, _, ⟨T48, L48, k48, n48⟩, -, X48, ⟨Lc48, hQ48, l48, y48, z48⟩, st48⟩ := Jvm.LawKit.callS X45 hx (y := (⟨"java/util/Arrays", "copyOf", "([II)[I"⟩ : MethodName)) hown (mvT hZ (hw _ (List.mem_of_getElem? (i := 39) rfl))) (mvT hZ (hw _ (List.mem_of_getElem? (i := 40) rfl))) (mvT hZ (hw _ (List.mem_of_getElem? (i := 30) rfl))) (mvT hZ (hw _ (List.mem_of_getElem? (i := 41) rfl))) (by decide) (backOf (W := 1) (rm7 l Z a0 hw [] bN ((16 : Int32) * al) 0 (16 * an) fN h28 n0 Z28 Vf33 hm (by omega) (by omega)) hZ (hw _ (List.mem_of_getElem? (i := 41) rfl)) (hw _ (List.mem_of_getElem? (i := 30) rfl)) (by decide) (by decide)) (g := (mkF m 53 #[.val (.ref a1), .val (.int p2), .val (.int (16 : Int32)), .val (.int (Int32.ofNat 0))] [(.int ((16 : Int32) * al)), (.ref bN), (.ref a1)])) rfl (by rw [hml]; rfl) (argsL := [(.ref bN), (.int ((16 : Int32) * al))]) (rest := [(.ref a1)]) (lenOf pd_6 rfl) rfl (by show 2 * 0 + _ ≤ _; exact Nat.le_of_eq rfl) (hb hby d3_53) (fun _ _ => ⟨rfl, e45, (by decide : 1 + 1 ≤ _), (by decide : 16 + 128 ≤ _)⟩)
  dsimp only [Pt.U, Pt.locs, Pt.cells, Pt.slots] at X48 l48 y48 z48 st48 hQ48
  subst l48 y48 z48
  obtain ⟨r48, rfl, N48q, K48q, sz48, Vr48⟩ := hQ48
  have N48 := Fr.app N28 N48q
  have Ef49 := Ef29.keep K48q
  have Ff50 := Ff30.keep K48q nin0
  have Ff51 := Ff31.keep K48q nin0
  have Ff52 := Ff32.keep K48q nin0
  have Vf53 := Vf33.keep K48q nin0
  have Vf54 := Vf34.keep K48q nin0
  have Ff55 := Fw28.keep K48q nin0
  have Z48 : n0 ≤ T48.heap.size := Nat.le_trans Z28 K48q.1
  have Kp56 : Keep h0 T48.heap [a1] := Kp35.trans K48q all0
  have g_r48 : n0 ≤ r48 := Nat.le_trans Z28 sz48
  have sz_r48 : h0.size ≤ r48 := Nat.le_trans Kp35.1 sz48
  have ne_a1_r48 : a1 ≠ r48 := Nat.ne_of_lt (Nat.lt_of_lt_of_le Ef29.lt sz48)
  have ne_bN_r48 : bN ≠ r48 := Nat.ne_of_lt (Nat.lt_of_lt_of_le Vf33.lt sz48)
  have ne_r18_r48 : r18 ≠ r48 := Nat.ne_of_lt (Nat.lt_of_lt_of_le Vf34.lt sz48)
  have ac57 : ∀ t, Steps p.tables e below (T48.setTop (mkF m 56 #[.val (.ref a1), .val (.int p2), .val (.int (16 : Int32)), .val (.int (Int32.ofNat 0))] [(.ref r48), (.ref a1)])) t → Steps p.tables e below (s₁.setTop (entryFrame m #[(.ref a1), (.int p2)] 4)) t := fun t k => ac47 t (st48 t k)
  obtain ⟨T58, h58, X58, e58, W58, st58⟩ := putF X48 hx hZ hown (host := "") (Or.inl (hw _ (List.mem_of_getElem? (i := 10) rfl))) Via.refl rfl Ff50 Ef49 (Or.inl (hw _ (List.mem_of_getElem? (i := 11) rfl))) (hw _ (List.mem_of_getElem? (i := 1) rfl)) (ty := (.array .int)) (by decide) rfl rfl (g := (mkF m 56 #[.val (.ref a1), .val (.int p2), .val (.int (16 : Int32)), .val (.int (Int32.ofNat 0))] [(.ref r48), (.ref a1)])) rfl rfl (hb hby d3_56)
  have Fw58 := Ff50.same W58
  have Ef59 := Ef49.wr W58
  have Ff60 := Ff51.other W58 (Or.inr (slot_ne (Or.inr (hw _ (List.mem_of_getElem? (i := 16) rfl))) (Or.inl (hw _ (List.mem_of_getElem? (i := 11) rfl))) (by decide) (t := .int) (t' := (.array .int)) (by decide) (by decide)))
  have Ff61 := Ff52.other W58 (Or.inr (slot_ne (Or.inl (hw _ (List.mem_of_getElem? (i := 23) rfl))) (Or.inl (hw _ (List.mem_of_getElem? (i := 11) rfl))) (by decide) (t := .int) (t' := (.array .int)) (by decide) (by decide)))
  have Vf62 := Vf54.other W58 (Ne.symm ne_a1_r18)
  have Ff63 := Ff55.other W58 (Or.inr (slot_ne (Or.inl (hw _ (List.mem_of_getElem? (i := 14) rfl))) (Or.inl (hw _ (List.mem_of_getElem? (i := 11) rfl))) (by decide) (t := (.array .boolean)) (t' := (.array .int)) (by decide) (by decide)))
  have Vf64 := Vr48.other W58 (Ne.symm ne_a1_r48)
  have N58 := Fr.snoc X58 N48 g_a1
  have Z58 : n0 ≤ h58.size := Nat.le_trans Z48 (Keep.of_wr W58).1
  have Kp65 : Keep h0 h58 [a1] := Kp56.wr W58 (Or.inl (List.mem_of_getElem? (i := 0) rfl))
  have ac66 : ∀ t, Steps p.tables e below (T58.setTop (mkF m 59 #[.val (.ref a1), .val (.int p2), .val (.int (16 : Int32)), .val (.int (Int32.ofNat 0))] [])) t → Steps p.tables e below (s₁.setTop (entryFrame m #[(.ref a1), (.int p2)] 4)) t := fun t k => ac57 t (st58 t k)
  have ac67 : ∀ t, Steps p.tables e below (T58.setTop (mkF m 60 #[.val (.ref a1), .val (.int p2), .val (.int (16 : Int32)), .val (.int (Int32.ofNat 0))] [(.ref a1)])) t → Steps p.tables e below (s₁.setTop (entryFrame m #[(.ref a1), (.int p2)] 4)) t := fun t k => ac66 t (by
      show Steps p.tables e below (T58.setTop (mkF m 59 #[.val (.ref a1), .val (.int p2), .val (.int (16 : Int32)), .val (.int (Int32.ofNat 0))] [])) _
      refine XS.aloadN X58.here hx rfl (hb hby d3_59) rfl rfl ?_
      exact k)
  obtain ⟨T68, X68, e68, st68⟩ := getF X58 hx hZ hown (host := "") (Or.inl (hw _ (List.mem_of_getElem? (i := 10) rfl))) Via.refl e58 Fw58 (g := (mkF m 60 #[.val (.ref a1), .val (.int p2), .val (.int (16 : Int32)), .val (.int (Int32.ofNat 0))] [(.ref a1)])) rfl rfl (hb hby d3_60)
  have ac69 : ∀ t, Steps p.tables e below (T68.setTop (mkF m 63 #[.val (.ref a1), .val (.int p2), .val (.int (16 : Int32)), .val (.int (Int32.ofNat 0))] [(.ref r48)])) t → Steps p.tables e below (s₁.setTop (entryFrame m #[(.ref a1), (.int p2)] 4)) t := fun t k => ac67 t (st68 t k)
  have ac70 : ∀ t, Steps p.tables e below (T68.setTop (mkF m 65 #[.val (.ref a1), .val (.int p2), .val (.int (16 : Int32)), .val (.int (Int32.ofNat 0))] [(.ref a1), (.int (Int32.ofNat 0)), (.ref r48)])) t → Steps p.tables e below (s₁.setTop (entryFrame m #[(.ref a1), (.int p2)] 4)) t := fun t k => ac69 t (by
      show Steps p.tables e below (T68.setTop (mkF m 63 #[.val (.ref a1), .val (.int p2), .val (.int (16 : Int32)), .val (.int (Int32.ofNat 0))] [(.ref r48)])) _
      refine XS.iloadN X68.here hx rfl (hb hby d3_63) rfl ?_
      show Steps p.tables e below (T68.setTop (mkF m 64 #[.val (.ref a1), .val (.int p2), .val (.int (16 : Int32)), .val (.int (Int32.ofNat 0))] [(.int (Int32.ofNat 0)), (.ref r48)])) _
      refine XS.aloadN X68.here hx rfl (hb hby d3_64) rfl rfl ?_
      exact k)
  obtain ⟨T71, X71, e71, st71⟩ := getF X68 hx hZ hown (host := "") (Or.inl (hw _ (List.mem_of_getElem? (i := 10) rfl))) Via.refl e68 Fw58 (g := (mkF m 65 #[.val (.ref a1), .val (.int p2), .val (.int (16 : Int32)), .val (.int (Int32.ofNat 0))] [(.ref a1), (.int (Int32.ofNat 0)), (.ref r48)])) rfl rfl (hb hby d3_65)
  have ac72 : ∀ t, Steps p.tables e below (T71.setTop (mkF m 68 #[.val (.ref a1), .val (.int p2), .val (.int (16 : Int32)), .val (.int (Int32.ofNat 0))] [(.ref r48), (.int (Int32.ofNat 0)), (.ref r48)])) t → Steps p.tables e below (s₁.setTop (entryFrame m #[(.ref a1), (.int p2)] 4)) t := fun t k => ac70 t (st71 t k)
  obtain ⟨cl73, Ac73, hl73, hb73⟩ := Vf64.len
  have h16 := own_ofNat hb73
  have ac74 : ∀ t, Steps p.tables e below (T71.setTop (mkF m 70 #[.val (.ref a1), .val (.int p2), .val (.int (16 : Int32)), .val (.int (Int32.ofNat 0))] [(.int (-1 : Int32)), (.int (Int32.ofNat (16 * an))), (.int (Int32.ofNat 0)), (.ref r48)])) t → Steps p.tables e below (s₁.setTop (entryFrame m #[(.ref a1), (.int p2)] 4)) t := fun t k => ac72 t (by
      show Steps p.tables e below (T71.setTop (mkF m 68 #[.val (.ref a1), .val (.int p2), .val (.int (16 : Int32)), .val (.int (Int32.ofNat 0))] [(.ref r48), (.int (Int32.ofNat 0)), (.ref r48)])) _
      refine X71.arraylength hx (by rw [e71]; exact Ac73.1) (State.isArrayOf_alike hZ.alike Ac73.2.1) (g := (mkF m 68 #[.val (.ref a1), .val (.int p2), .val (.int (16 : Int32)), .val (.int (Int32.ofNat 0))] [(.ref r48), (.int (Int32.ofNat 0)), (.ref r48)])) rfl rfl (hb hby d3_68) _ ?_
      rw [hl73]
      show Steps p.tables e below (T71.setTop (mkF m 69 #[.val (.ref a1), .val (.int p2), .val (.int (16 : Int32)), .val (.int (Int32.ofNat 0))] [(.int (Int32.ofNat (16 * an))), (.int (Int32.ofNat 0)), (.ref r48)])) _
      refine XS.iconst X71.here hx rfl (hb hby d3_69) ?_
      exact k)
  obtain ⟨_, _, ⟨T75, L75, k75, n75⟩, -, X75, ⟨Lc75, hQ75, l75, y75, z75⟩, st75⟩ := Jvm.LawKit.callS X71 hx (y := (⟨"java/util/Arrays", "fill", "([IIII)V"⟩ : MethodName)) hown (mvT hZ (hw _ (List.mem_of_getElem? (i := 42) rfl))) (mvT hZ (hw _ (List.mem_of_getElem? (i := 43) rfl))) (mvT hZ (hw _ (List.mem_of_getElem? (i := 30) rfl))) (mvT hZ (hw _ (List.mem_of_getElem? (i := 44) rfl))) (by decide) (backOf (W := 0) (rm8 l Z a0 hw [] r48 (Int32.ofNat 0) (Int32.ofNat (16 * an)) (-1 : Int32) (16 * an) 0 (16 * an) _ h58 n0 Z58 Vf64 g_r48 rfl h16 (by omega) (Nat.le_refl _)) hZ (hw _ (List.mem_of_getElem? (i := 44) rfl)) (hw _ (List.mem_of_getElem? (i := 30) rfl)) (by decide) (by decide)) (g := (mkF m 70 #[.val (.ref a1), .val (.int p2), .val (.int (16 : Int32)), .val (.int (Int32.ofNat 0))] [(.int (-1 : Int32)), (.int (Int32.ofNat (16 * an))), (.int (Int32.ofNat 0)), (.ref r48)])) rfl (by rw [hml]; rfl) (argsL := [(.ref r48), (.int (Int32.ofNat 0)), (.int (Int32.ofNat (16 * an))), (.int (-1 : Int32))]) (rest := []) (lenOf pd_7 rfl) rfl (by show 2 * 0 + _ ≤ _; exact Nat.le_of_eq rfl) (hb hby d3_70) (fun _ _ => ⟨rfl, e71, (by decide : 2 + 0 ≤ _), (by decide : 144 + 0 ≤ _)⟩)
  dsimp only [Pt.U, Pt.locs, Pt.cells, Pt.slots] at X75 l75 y75 z75 st75 hQ75
  subst l75 y75 z75
  obtain ⟨rfl, N75q, K75q, Vf75⟩ := hQ75
  have N75 := Fr.app N58 N75q
  have Ef76 := Ef59.keep K75q
  have Ff77 := Ff60.keep K75q (ninS ne_a1_r48 nin0)
  have Ff78 := Ff61.keep K75q (ninS ne_a1_r48 nin0)
  have Vf79 := Vf62.keep K75q (ninS ne_r18_r48 nin0)
  have Ff80 := Ff63.keep K75q (ninS ne_a1_r48 nin0)
  have Ff81 := Fw58.keep K75q (ninS ne_a1_r48 nin0)
  have Z75 : n0 ≤ T75.heap.size := Nat.le_trans Z58 K75q.1
  have Kp82 : Keep h0 T75.heap [a1] := Kp65.trans K75q (allS (Or.inr sz_r48) all0)
  have ac83 : ∀ t, Steps p.tables e below (T75.setTop (mkF m 73 #[.val (.ref a1), .val (.int p2), .val (.int (16 : Int32)), .val (.int (Int32.ofNat 0))] [])) t → Steps p.tables e below (s₁.setTop (entryFrame m #[(.ref a1), (.int p2)] 4)) t := fun t k => ac74 t (st75 t k)
  have V84 : own_Ar Z T75.heap r48 .int (16 * an) (fun _ => .int (-1)) := Vf75.eq (fun j hj => if_pos ⟨Nat.zero_le _, hj⟩)
  have ac85 : ∀ t, Steps p.tables e below (T75.setTop (mkF m 74 #[.val (.ref a1), .val (.int p2), .val (.int (16 : Int32)), .val (.int (Int32.ofNat 0))] [(.ref a1)])) t → Steps p.tables e below (s₁.setTop (entryFrame m #[(.ref a1), (.int p2)] 4)) t := fun t k => ac83 t (by
      show Steps p.tables e below (T75.setTop (mkF m 73 #[.val (.ref a1), .val (.int p2), .val (.int (16 : Int32)), .val (.int (Int32.ofNat 0))] [])) _
      refine XS.aloadN X75.here hx rfl (hb hby d3_73) rfl rfl ?_
      exact k)
  obtain ⟨T86, X86, e86, st86⟩ := getF X75 hx hZ hown (host := "") (Or.inl (hw _ (List.mem_of_getElem? (i := 13) rfl))) Via.refl rfl Ff80 (g := (mkF m 74 #[.val (.ref a1), .val (.int p2), .val (.int (16 : Int32)), .val (.int (Int32.ofNat 0))] [(.ref a1)])) rfl rfl (hb hby d3_74)
  have ac87 : ∀ t, Steps p.tables e below (T86.setTop (mkF m 77 #[.val (.ref a1), .val (.int p2), .val (.int (16 : Int32)), .val (.int (Int32.ofNat 0))] [(.ref r18)])) t → Steps p.tables e below (s₁.setTop (entryFrame m #[(.ref a1), (.int p2)] 4)) t := fun t k => ac85 t (st86 t k)
  have ac88 : ∀ t, Steps p.tables e below (T86.setTop (mkF m 78 #[.val (.ref a1), .val (.int p2), .val (.int (16 : Int32)), .val (.int (Int32.ofNat 0))] [(.ref a1), (.ref r18)])) t → Steps p.tables e below (s₁.setTop (entryFrame m #[(.ref a1), (.int p2)] 4)) t := fun t k => ac87 t (by
      show Steps p.tables e below (T86.setTop (mkF m 77 #[.val (.ref a1), .val (.int p2), .val (.int (16 : Int32)), .val (.int (Int32.ofNat 0))] [(.ref r18)])) _
      refine XS.aloadN X86.here hx rfl (hb hby d3_77) rfl rfl ?_
      exact k)
  obtain ⟨T89, X89, e89, st89⟩ := getF X86 hx hZ hown (host := "") (Or.inl (hw _ (List.mem_of_getElem? (i := 22) rfl))) Via.refl e86 Ff78 (g := (mkF m 78 #[.val (.ref a1), .val (.int p2), .val (.int (16 : Int32)), .val (.int (Int32.ofNat 0))] [(.ref a1), (.ref r18)])) rfl rfl (hb hby d3_78)
  have ac90 : ∀ t, Steps p.tables e below (T89.setTop (mkF m 81 #[.val (.ref a1), .val (.int p2), .val (.int (16 : Int32)), .val (.int (Int32.ofNat 0))] [(.int (0 : Int32)), (.ref r18)])) t → Steps p.tables e below (s₁.setTop (entryFrame m #[(.ref a1), (.int p2)] 4)) t := fun t k => ac88 t (st89 t k)
  have ac91 : ∀ t, Steps p.tables e below (T89.setTop (mkF m 82 #[.val (.ref a1), .val (.int p2), .val (.int (16 : Int32)), .val (.int (Int32.ofNat 0))] [(.int p2), (.int (0 : Int32)), (.ref r18)])) t → Steps p.tables e below (s₁.setTop (entryFrame m #[(.ref a1), (.int p2)] 4)) t := fun t k => ac90 t (by
      show Steps p.tables e below (T89.setTop (mkF m 81 #[.val (.ref a1), .val (.int p2), .val (.int (16 : Int32)), .val (.int (Int32.ofNat 0))] [(.int (0 : Int32)), (.ref r18)])) _
      refine XS.iloadN X89.here hx rfl (hb hby d3_81) rfl ?_
      exact k)
  obtain ⟨cl92, Ac92, hin92, -⟩ := Vf79.at (j := (0 : Int32)) (i := 0) rfl (by decide)
  obtain ⟨T92, h92, X92, e92, W92, st92⟩ := stZ X89 hx hZ e89 Ac92 (j := (0 : Int32)) hin92 (g := (mkF m 82 #[.val (.ref a1), .val (.int p2), .val (.int (16 : Int32)), .val (.int (Int32.ofNat 0))] [(.int p2), (.int (0 : Int32)), (.ref r18)])) rfl rfl (hb hby d3_82)
  have V92 := Vf79.set (i := 0) rfl W92 (fits_nar_bool _)
  have Ef93 := Ef76.wr W92
  have Ff94 := Ff77.other W92 (Or.inl ne_a1_r18)
  have Ff95 := Ff78.other W92 (Or.inl ne_a1_r18)
  have Ff96 := Ff80.other W92 (Or.inl ne_a1_r18)
  have Ff97 := Ff81.other W92 (Or.inl ne_a1_r18)
  have Vf98 := V84.other W92 (Ne.symm ne_r18_r48)
  have N92 := Fr.snoc X92 N75 g_r18
  have Z92 : n0 ≤ h92.size := Nat.le_trans Z75 (Keep.of_wr W92).1
  have Kp99 : Keep h0 h92 [a1] := Kp82.wr W92 (Or.inr sz_r18)
  have ac100 : ∀ t, Steps p.tables e below (T92.setTop (mkF m 83 #[.val (.ref a1), .val (.int p2), .val (.int (16 : Int32)), .val (.int (Int32.ofNat 0))] [])) t → Steps p.tables e below (s₁.setTop (entryFrame m #[(.ref a1), (.int p2)] 4)) t := fun t k => ac91 t (st92 t k)
  have ac101 : ∀ t, Steps p.tables e below (T92.setTop (mkF m 85 #[.val (.ref a1), .val (.int p2), .val (.int (16 : Int32)), .val (.int (Int32.ofNat 0))] [(.ref a1), (.ref a1)])) t → Steps p.tables e below (s₁.setTop (entryFrame m #[(.ref a1), (.int p2)] 4)) t := fun t k => ac100 t (by
      show Steps p.tables e below (T92.setTop (mkF m 83 #[.val (.ref a1), .val (.int p2), .val (.int (16 : Int32)), .val (.int (Int32.ofNat 0))] [])) _
      refine XS.aloadN X92.here hx rfl (hb hby d3_83) rfl rfl ?_
      show Steps p.tables e below (T92.setTop (mkF m 84 #[.val (.ref a1), .val (.int p2), .val (.int (16 : Int32)), .val (.int (Int32.ofNat 0))] [(.ref a1)])) _
      refine XS.dup X92.here hx rfl (hb hby d3_84) rfl rfl ?_
      exact k)
  obtain ⟨T102, X102, e102, st102⟩ := getF X92 hx hZ hown (host := "") (Or.inl (hw _ (List.mem_of_getElem? (i := 22) rfl))) Via.refl e92 Ff95 (g := (mkF m 85 #[.val (.ref a1), .val (.int p2), .val (.int (16 : Int32)), .val (.int (Int32.ofNat 0))] [(.ref a1), (.ref a1)])) rfl rfl (hb hby d3_85)
  have ac103 : ∀ t, Steps p.tables e below (T102.setTop (mkF m 88 #[.val (.ref a1), .val (.int p2), .val (.int (16 : Int32)), .val (.int (Int32.ofNat 0))] [(.int (0 : Int32)), (.ref a1)])) t → Steps p.tables e below (s₁.setTop (entryFrame m #[(.ref a1), (.int p2)] 4)) t := fun t k => ac101 t (st102 t k)
  have ac104 : ∀ t, Steps p.tables e below (T102.setTop (mkF m 91 #[.val (.ref a1), .val (.int p2), .val (.int (16 : Int32)), .val (.int (Int32.ofNat 0))] [(.int ((0 : Int32) + (1 : Int32))), (.ref a1), (.int (0 : Int32))])) t → Steps p.tables e below (s₁.setTop (entryFrame m #[(.ref a1), (.int p2)] 4)) t := fun t k => ac103 t (by
      show Steps p.tables e below (T102.setTop (mkF m 88 #[.val (.ref a1), .val (.int p2), .val (.int (16 : Int32)), .val (.int (Int32.ofNat 0))] [(.int (0 : Int32)), (.ref a1)])) _
      refine XS.dupX1 X102.here hx rfl (hb hby d3_88) rfl rfl rfl ?_
      show Steps p.tables e below (T102.setTop (mkF m 89 #[.val (.ref a1), .val (.int p2), .val (.int (16 : Int32)), .val (.int (Int32.ofNat 0))] [(.int (0 : Int32)), (.ref a1), (.int (0 : Int32))])) _
      refine XS.iconst X102.here hx rfl (hb hby d3_89) ?_
      show Steps p.tables e below (T102.setTop (mkF m 90 #[.val (.ref a1), .val (.int p2), .val (.int (16 : Int32)), .val (.int (Int32.ofNat 0))] [(.int (1 : Int32)), (.int (0 : Int32)), (.ref a1), (.int (0 : Int32))])) _
      refine XS.iadd X102.here hx rfl (hb hby d3_90) rfl ?_
      exact k)
  obtain ⟨T105, h105, X105, e105, W105, st105⟩ := putF X102 hx hZ hown (host := "") (Or.inl (hw _ (List.mem_of_getElem? (i := 22) rfl))) Via.refl e102 Ff95 Ef93 (Or.inl (hw _ (List.mem_of_getElem? (i := 23) rfl))) (hw _ (List.mem_of_getElem? (i := 1) rfl)) (ty := .int) (by decide) rfl rfl (g := (mkF m 91 #[.val (.ref a1), .val (.int p2), .val (.int (16 : Int32)), .val (.int (Int32.ofNat 0))] [(.int ((0 : Int32) + (1 : Int32))), (.ref a1), (.int (0 : Int32))])) rfl rfl (hb hby d3_91)
  have Fw105 := Ff95.same W105
  have Ef106 := Ef93.wr W105
  have Ff107 := Ff94.other W105 (Or.inr (slot_ne (Or.inr (hw _ (List.mem_of_getElem? (i := 16) rfl))) (Or.inl (hw _ (List.mem_of_getElem? (i := 23) rfl))) (by decide) (t := .int) (t' := .int) (by decide) (by decide)))
  have Ff108 := Ff96.other W105 (Or.inr (slot_ne (Or.inl (hw _ (List.mem_of_getElem? (i := 14) rfl))) (Or.inl (hw _ (List.mem_of_getElem? (i := 23) rfl))) (by decide) (t := (.array .boolean)) (t' := .int) (by decide) (by decide)))
  have Ff109 := Ff97.other W105 (Or.inr (slot_ne (Or.inl (hw _ (List.mem_of_getElem? (i := 11) rfl))) (Or.inl (hw _ (List.mem_of_getElem? (i := 23) rfl))) (by decide) (t := (.array .int)) (t' := .int) (by decide) (by decide)))
  have Vf110 := Vf98.other W105 (Ne.symm ne_a1_r48)
  have Vf111 := V92.other W105 (Ne.symm ne_a1_r18)
  have N105 := Fr.snoc X105 N92 g_a1
  have Z105 : n0 ≤ h105.size := Nat.le_trans Z92 (Keep.of_wr W105).1
  have Kp112 : Keep h0 h105 [a1] := Kp99.wr W105 (Or.inl (List.mem_of_getElem? (i := 0) rfl))
  have ac113 : ∀ t, Steps p.tables e below (T105.setTop (mkF m 94 #[.val (.ref a1), .val (.int p2), .val (.int (16 : Int32)), .val (.int (Int32.ofNat 0))] [(.int (0 : Int32))])) t → Steps p.tables e below (s₁.setTop (entryFrame m #[(.ref a1), (.int p2)] 4)) t := fun t k => ac104 t (st105 t k)
  obtain ⟨fs, hr, hrun, hended, hW, hsame⟩ := X105.leave (v := some (.int (0 : Int32))) (fun h => by rw [Bd.returns] at h; cases h) (BodyLoose.notSynchronized Bd)
  refine ⟨_, _, ac113 _ ?_, hrun, hended, _, _, rfl, ?_, ⟨_, rfl⟩, hW, hsame.mono (by decide) (by decide)⟩
  · show Steps p.tables e below (T105.setTop (mkF m 94 #[.val (.ref a1), .val (.int p2), .val (.int (16 : Int32)), .val (.int (Int32.ofNat 0))] [(.int (0 : Int32))])) _
    exact retI X105 hx Bd.returns (hb hby d3_94) hr
  · show Q3g Z a1 p2 al bN bA fN fA an h0 n0 _ T105.heap _
    rw [e105]
    exact ⟨r48, r18, _, rfl, N105, Kp112, ⟨Ef106, Ff109, Ff108, Ff107, Fw105, Vf110, Vf111, ne_a1_r48, ne_a1_r18, (Ne.symm ne_r18_r48), g_r48, g_r18⟩⟩
theorem ef_rm3p (m : MethodId) (x0 : Addr) (x1 : Int32) : entryFrame m #[(.ref x0), (.int x1)] 4 = mkF m 0 #[.val (.ref x0), .val (.int x1), .unset, .unset] [] := by first | (simp [entryFrame, mkF, argsToLocals, Value.category]; done) | rfl
def Q3p (Z : State) (a1 : Addr) (p2 : Int32) (al : Int32) (cnt : Int32) (bN : Addr) (bA : Addr) (nN : Nat) (fN : Nat → Value) (fA : Nat → Value) (cn : Nat) (h0 : Heap) (n0 : Nat) (v : Option Value) (h : Heap) (L : List Loc) : Prop := ∃ fA' : Nat → Value, v = some (.int cnt) ∧ Fr n0 L ∧ Keep h0 h [a1, bA] ∧ own_B Z h n0 a1 al (cnt + (1 : Int32)) bN bA nN 16 fN fA'
set_option maxRecDepth 65536 in
set_option maxHeartbeats 40000000 in
theorem rm3p (l : Launch) (Z : State) (a0 : Array Value) (hw : ∀ d ∈ tables_1, d.before a0 Z = true) (ws : List Jvm.Cond) (a1 : Addr) (p2 : Int32) (al : Int32) (cnt : Int32) (bN : Addr) (bA : Addr) (nN : Nat) (fN : Nat → Value) (fA : Nat → Value) (cn : Nat) (h0 : Heap) (n0 : Nat) (Z0 : n0 ≤ h0.size) (HB : own_B Z h0 n0 a1 al cnt bN bA nN 16 fN fA) (hc : cnt.toInt = cn) (hcn : cn < 16) (g_a1 : n0 ≤ a1) :
    MetFree l (⟨"com/example/boxwise/boxwise/Dfa$Builder", "addState", "(Z)I"⟩ : MethodName) (head1 (Jvm.Cond.code (⟨"com/example/boxwise/boxwise/Dfa$Builder", "addState", "(Z)I"⟩ : MethodName) prog_18_method_2_code 4 (some .int) :: ws) ({ frames := 0, cells := 0, slots := 0, locals := 0 } : Room)) (fun a U => a = #[(.ref a1), (.int p2)] ∧ Z.Warmed39 U.vm ∧ U.heap = h0) (fun _ _ _ _ _ => True) (fun _ U o U' => ∃ v L, o = .returned v ∧ Q3p Z a1 p2 al cnt bN bA nN fN fA cn h0 n0 v U'.heap L ∧ FrameEnd U o U' L ({ frames := 0, cells := 0, slots := 0, locals := 0 } : Room).cells ({ frames := 0, cells := 0, slots := 0, locals := 0 } : Room).slots) := by
  refine MetFree.of_bodySF (plainFor_of_name pn_3) hisR ?_
  intro p e s m args below meth c s₁ Bd hml0 hP hK
  obtain ⟨rfl, hZ, hh⟩ := hP
  have hx := Bd.exec
  have hby := Bd.bytes
  have hml : c.maxLocals = 4 := hml0
  have hown : s.vm.findClass "com/example/boxwise/boxwise/Dfa$Builder" = some m.cls := findClass_of_methodNamed Bd.named
  have hnm := (name_of_methodNamed Bd.named Bd.method).1
  have X0 : Stand p l e ({ frames := 0, cells := 0, slots := 0, locals := 0 } : Room) s m #[(.ref a1), (.int p2)] below meth c s₁ [] 0 0 := Stand.of_body Bd
  have e0 : s₁.heap = h0 := by rw [← hh, Bd.state]; rfl
  have N0 := Fr.nil n0
  have a0s : ∀ t, Steps p.tables e below (s₁.setTop (mkF m 0 #[.val (.ref a1), .val (.int p2), .unset, .unset] [])) t → Steps p.tables e below (s₁.setTop (entryFrame m #[(.ref a1), (.int p2)] 4)) t := fun t k => castTop (ef_rm3p m a1 p2) k
  obtain ⟨E1, F_n, F_a, F_s, F_c, V_N, V_A, ne_a1_bN, ne_a1_bA, ne_bN_bA, g_bN, g_bA⟩ := HB
  have ac1 : ∀ t, Steps p.tables e below (s₁.setTop (mkF m 1 #[.val (.ref a1), .val (.int p2), .unset, .unset] [(.ref a1)])) t → Steps p.tables e below (s₁.setTop (entryFrame m #[(.ref a1), (.int p2)] 4)) t := fun t k => a0s t (by
      show Steps p.tables e below (s₁.setTop (mkF m 0 #[.val (.ref a1), .val (.int p2), .unset, .unset] [])) _
      refine XS.aloadN X0.here hx rfl (hb hby d3_0) rfl rfl ?_
      exact k)
  obtain ⟨T2, X2, e2, st2⟩ := getF X0 hx hZ hown (host := "") (Or.inl (hw _ (List.mem_of_getElem? (i := 22) rfl))) Via.refl e0 F_c (g := (mkF m 1 #[.val (.ref a1), .val (.int p2), .unset, .unset] [(.ref a1)])) rfl rfl (hb hby d3_1)
  have ac3 : ∀ t, Steps p.tables e below (T2.setTop (mkF m 4 #[.val (.ref a1), .val (.int p2), .unset, .unset] [(.int cnt)])) t → Steps p.tables e below (s₁.setTop (entryFrame m #[(.ref a1), (.int p2)] 4)) t := fun t k => ac1 t (st2 t k)
  have ac4 : ∀ t, Steps p.tables e below (T2.setTop (mkF m 5 #[.val (.ref a1), .val (.int p2), .unset, .unset] [(.ref a1), (.int cnt)])) t → Steps p.tables e below (s₁.setTop (entryFrame m #[(.ref a1), (.int p2)] 4)) t := fun t k => ac3 t (by
      show Steps p.tables e below (T2.setTop (mkF m 4 #[.val (.ref a1), .val (.int p2), .unset, .unset] [(.int cnt)])) _
      refine XS.aloadN X2.here hx rfl (hb hby d3_4) rfl rfl ?_
      exact k)
  obtain ⟨T5, X5, e5, st5⟩ := getF X2 hx hZ hown (host := "") (Or.inl (hw _ (List.mem_of_getElem? (i := 13) rfl))) Via.refl e2 F_a (g := (mkF m 5 #[.val (.ref a1), .val (.int p2), .unset, .unset] [(.ref a1), (.int cnt)])) rfl rfl (hb hby d3_5)
  have ac6 : ∀ t, Steps p.tables e below (T5.setTop (mkF m 8 #[.val (.ref a1), .val (.int p2), .unset, .unset] [(.ref bA), (.int cnt)])) t → Steps p.tables e below (s₁.setTop (entryFrame m #[(.ref a1), (.int p2)] 4)) t := fun t k => ac4 t (st5 t k)
  obtain ⟨cl7, Ac7, hl7, hb7⟩ := V_A.len
  have h16 : (Int32.ofNat 16).toInt = 16 := rfl
  have ac8 : ∀ t, Steps p.tables e below (T5.setTop (mkF m 74 #[.val (.ref a1), .val (.int p2), .unset, .unset] [(.ref a1)])) t → Steps p.tables e below (s₁.setTop (entryFrame m #[(.ref a1), (.int p2)] 4)) t := fun t k => ac6 t (by
      show Steps p.tables e below (T5.setTop (mkF m 8 #[.val (.ref a1), .val (.int p2), .unset, .unset] [(.ref bA), (.int cnt)])) _
      refine X5.arraylength hx (by rw [e5]; exact Ac7.1) (State.isArrayOf_alike hZ.alike Ac7.2.1) (g := (mkF m 8 #[.val (.ref a1), .val (.int p2), .unset, .unset] [(.ref bA), (.int cnt)])) rfl rfl (hb hby d3_8) _ ?_
      rw [hl7]
      show Steps p.tables e below (T5.setTop (mkF m 9 #[.val (.ref a1), .val (.int p2), .unset, .unset] [(.int (Int32.ofNat 16)), (.int cnt)])) _
      refine XS.icmpYes X5.here hx rfl (pc0 := 9) (pc' := 73) rfl (hb hby d3_9) rfl (feq (own_ne_of (by omega))).2 (by decide) (by decide) ?_
      show Steps p.tables e below (T5.setTop (mkF m 73 #[.val (.ref a1), .val (.int p2), .unset, .unset] [])) _
      refine XS.aloadN X5.here hx rfl (hb hby d3_73) rfl rfl ?_
      exact k)
  obtain ⟨T9, X9, e9, st9⟩ := getF X5 hx hZ hown (host := "") (Or.inl (hw _ (List.mem_of_getElem? (i := 13) rfl))) Via.refl e5 F_a (g := (mkF m 74 #[.val (.ref a1), .val (.int p2), .unset, .unset] [(.ref a1)])) rfl rfl (hb hby d3_74)
  have ac10 : ∀ t, Steps p.tables e below (T9.setTop (mkF m 77 #[.val (.ref a1), .val (.int p2), .unset, .unset] [(.ref bA)])) t → Steps p.tables e below (s₁.setTop (entryFrame m #[(.ref a1), (.int p2)] 4)) t := fun t k => ac8 t (st9 t k)
  have ac11 : ∀ t, Steps p.tables e below (T9.setTop (mkF m 78 #[.val (.ref a1), .val (.int p2), .unset, .unset] [(.ref a1), (.ref bA)])) t → Steps p.tables e below (s₁.setTop (entryFrame m #[(.ref a1), (.int p2)] 4)) t := fun t k => ac10 t (by
      show Steps p.tables e below (T9.setTop (mkF m 77 #[.val (.ref a1), .val (.int p2), .unset, .unset] [(.ref bA)])) _
      refine XS.aloadN X9.here hx rfl (hb hby d3_77) rfl rfl ?_
      exact k)
  obtain ⟨T12, X12, e12, st12⟩ := getF X9 hx hZ hown (host := "") (Or.inl (hw _ (List.mem_of_getElem? (i := 22) rfl))) Via.refl e9 F_c (g := (mkF m 78 #[.val (.ref a1), .val (.int p2), .unset, .unset] [(.ref a1), (.ref bA)])) rfl rfl (hb hby d3_78)
  have ac13 : ∀ t, Steps p.tables e below (T12.setTop (mkF m 81 #[.val (.ref a1), .val (.int p2), .unset, .unset] [(.int cnt), (.ref bA)])) t → Steps p.tables e below (s₁.setTop (entryFrame m #[(.ref a1), (.int p2)] 4)) t := fun t k => ac11 t (st12 t k)
  have ac14 : ∀ t, Steps p.tables e below (T12.setTop (mkF m 82 #[.val (.ref a1), .val (.int p2), .unset, .unset] [(.int p2), (.int cnt), (.ref bA)])) t → Steps p.tables e below (s₁.setTop (entryFrame m #[(.ref a1), (.int p2)] 4)) t := fun t k => ac13 t (by
      show Steps p.tables e below (T12.setTop (mkF m 81 #[.val (.ref a1), .val (.int p2), .unset, .unset] [(.int cnt), (.ref bA)])) _
      refine XS.iloadN X12.here hx rfl (hb hby d3_81) rfl ?_
      exact k)
  obtain ⟨cl15, Ac15, hin15, -⟩ := V_A.at (j := cnt) (i := cn) hc hcn
  obtain ⟨T15, h15, X15, e15, W15, st15⟩ := stZ X12 hx hZ e12 Ac15 (j := cnt) hin15 (g := (mkF m 82 #[.val (.ref a1), .val (.int p2), .unset, .unset] [(.int p2), (.int cnt), (.ref bA)])) rfl rfl (hb hby d3_82)
  have V15 := V_A.set (i := cn) hc W15 (fits_nar_bool _)
  have Ef16 := E1.wr W15
  have Ff17 := F_n.other W15 (Or.inl ne_a1_bA)
  have Ff18 := F_a.other W15 (Or.inl ne_a1_bA)
  have Ff19 := F_s.other W15 (Or.inl ne_a1_bA)
  have Ff20 := F_c.other W15 (Or.inl ne_a1_bA)
  have Vf21 := V_N.other W15 ne_bN_bA
  have N15 := Fr.snoc X15 N0 g_bA
  have Z15 : n0 ≤ h15.size := Nat.le_trans Z0 (Keep.of_wr W15).1
  have Kp22 : Keep h0 h15 [a1, bA] := (Keep.refl h0 [a1, bA]).wr W15 (Or.inl (List.mem_of_getElem? (i := 1) rfl))
  have ac23 : ∀ t, Steps p.tables e below (T15.setTop (mkF m 83 #[.val (.ref a1), .val (.int p2), .unset, .unset] [])) t → Steps p.tables e below (s₁.setTop (entryFrame m #[(.ref a1), (.int p2)] 4)) t := fun t k => ac14 t (st15 t k)
  have ac24 : ∀ t, Steps p.tables e below (T15.setTop (mkF m 85 #[.val (.ref a1), .val (.int p2), .unset, .unset] [(.ref a1), (.ref a1)])) t → Steps p.tables e below (s₁.setTop (entryFrame m #[(.ref a1), (.int p2)] 4)) t := fun t k => ac23 t (by
      show Steps p.tables e below (T15.setTop (mkF m 83 #[.val (.ref a1), .val (.int p2), .unset, .unset] [])) _
      refine XS.aloadN X15.here hx rfl (hb hby d3_83) rfl rfl ?_
      show Steps p.tables e below (T15.setTop (mkF m 84 #[.val (.ref a1), .val (.int p2), .unset, .unset] [(.ref a1)])) _
      refine XS.dup X15.here hx rfl (hb hby d3_84) rfl rfl ?_
      exact k)
  obtain ⟨T25, X25, e25, st25⟩ := getF X15 hx hZ hown (host := "") (Or.inl (hw _ (List.mem_of_getElem? (i := 22) rfl))) Via.refl e15 Ff20 (g := (mkF m 85 #[.val (.ref a1), .val (.int p2), .unset, .unset] [(.ref a1), (.ref a1)])) rfl rfl (hb hby d3_85)
  have ac26 : ∀ t, Steps p.tables e below (T25.setTop (mkF m 88 #[.val (.ref a1), .val (.int p2), .unset, .unset] [(.int cnt), (.ref a1)])) t → Steps p.tables e below (s₁.setTop (entryFrame m #[(.ref a1), (.int p2)] 4)) t := fun t k => ac24 t (st25 t k)
  have ac27 : ∀ t, Steps p.tables e below (T25.setTop (mkF m 91 #[.val (.ref a1), .val (.int p2), .unset, .unset] [(.int (cnt + (1 : Int32))), (.ref a1), (.int cnt)])) t → Steps p.tables e below (s₁.setTop (entryFrame m #[(.ref a1), (.int p2)] 4)) t := fun t k => ac26 t (by
      show Steps p.tables e below (T25.setTop (mkF m 88 #[.val (.ref a1), .val (.int p2), .unset, .unset] [(.int cnt), (.ref a1)])) _
      refine XS.dupX1 X25.here hx rfl (hb hby d3_88) rfl rfl rfl ?_
      show Steps p.tables e below (T25.setTop (mkF m 89 #[.val (.ref a1), .val (.int p2), .unset, .unset] [(.int cnt), (.ref a1), (.int cnt)])) _
      refine XS.iconst X25.here hx rfl (hb hby d3_89) ?_
      show Steps p.tables e below (T25.setTop (mkF m 90 #[.val (.ref a1), .val (.int p2), .unset, .unset] [(.int (1 : Int32)), (.int cnt), (.ref a1), (.int cnt)])) _
      refine XS.iadd X25.here hx rfl (hb hby d3_90) rfl ?_
      exact k)
  obtain ⟨T28, h28, X28, e28, W28, st28⟩ := putF X25 hx hZ hown (host := "") (Or.inl (hw _ (List.mem_of_getElem? (i := 22) rfl))) Via.refl e25 Ff20 Ef16 (Or.inl (hw _ (List.mem_of_getElem? (i := 23) rfl))) (hw _ (List.mem_of_getElem? (i := 1) rfl)) (ty := .int) (by decide) rfl rfl (g := (mkF m 91 #[.val (.ref a1), .val (.int p2), .unset, .unset] [(.int (cnt + (1 : Int32))), (.ref a1), (.int cnt)])) rfl rfl (hb hby d3_91)
  have Fw28 := Ff20.same W28
  have Ef29 := Ef16.wr W28
  have Ff30 := Ff17.other W28 (Or.inr (slot_ne (Or.inl (hw _ (List.mem_of_getElem? (i := 11) rfl))) (Or.inl (hw _ (List.mem_of_getElem? (i := 23) rfl))) (by decide) (t := (.array .int)) (t' := .int) (by decide) (by decide)))
  have Ff31 := Ff18.other W28 (Or.inr (slot_ne (Or.inl (hw _ (List.mem_of_getElem? (i := 14) rfl))) (Or.inl (hw _ (List.mem_of_getElem? (i := 23) rfl))) (by decide) (t := (.array .boolean)) (t' := .int) (by decide) (by decide)))
  have Ff32 := Ff19.other W28 (Or.inr (slot_ne (Or.inr (hw _ (List.mem_of_getElem? (i := 16) rfl))) (Or.inl (hw _ (List.mem_of_getElem? (i := 23) rfl))) (by decide) (t := .int) (t' := .int) (by decide) (by decide)))
  have Vf33 := Vf21.other W28 (Ne.symm ne_a1_bN)
  have Vf34 := V15.other W28 (Ne.symm ne_a1_bA)
  have N28 := Fr.snoc X28 N15 g_a1
  have Z28 : n0 ≤ h28.size := Nat.le_trans Z15 (Keep.of_wr W28).1
  have Kp35 : Keep h0 h28 [a1, bA] := Kp22.wr W28 (Or.inl (List.mem_of_getElem? (i := 0) rfl))
  have ac36 : ∀ t, Steps p.tables e below (T28.setTop (mkF m 94 #[.val (.ref a1), .val (.int p2), .unset, .unset] [(.int cnt)])) t → Steps p.tables e below (s₁.setTop (entryFrame m #[(.ref a1), (.int p2)] 4)) t := fun t k => ac27 t (st28 t k)
  obtain ⟨fs, hr, hrun, hended, hW, hsame⟩ := X28.leave (v := some (.int cnt)) (fun h => by rw [Bd.returns] at h; cases h) (BodyLoose.notSynchronized Bd)
  refine ⟨_, _, ac36 _ ?_, hrun, hended, _, _, rfl, ?_, ⟨_, rfl⟩, hW, hsame.mono (by decide) (by decide)⟩
  · show Steps p.tables e below (T28.setTop (mkF m 94 #[.val (.ref a1), .val (.int p2), .unset, .unset] [(.int cnt)])) _
    exact retI X28 hx Bd.returns (hb hby d3_94) hr
  · show Q3p Z a1 p2 al cnt bN bA nN fN fA cn h0 n0 _ T28.heap _
    rw [e28]
    exact ⟨_, rfl, N28, Kp35, ⟨Ef29, Ff30, Ff31, Ff32, Fw28, Vf33, Vf34, ne_a1_bN, ne_a1_bA, ne_bN_bA, g_bN, g_bA⟩⟩
theorem ef_rm10 (m : MethodId) (x0 : Addr) (x1 : Int32) (x2 : Int32) (x3 : Int32) : entryFrame m #[(.ref x0), (.int x1), (.int x2), (.int x3)] 4 = mkF m 0 #[.val (.ref x0), .val (.int x1), .val (.int x2), .val (.int x3)] [] := by first | (simp [entryFrame, mkF, argsToLocals, Value.category]; done) | rfl
def Q10 (Z : State) (a1 : Addr) (p2 : Int32) (p3 : Int32) (p4 : Int32) (al : Int32) (cnt : Int32) (bN : Addr) (bA : Addr) (nN : Nat) (nA : Nat) (fN : Nat → Value) (fA : Nat → Value) (ix : Nat) (h0 : Heap) (n0 : Nat) (v : Option Value) (h : Heap) (L : List Loc) : Prop := v = none ∧ Fr n0 L ∧ Keep h0 h [bN] ∧ own_B Z h n0 a1 al cnt bN bA nN nA (fun k => if k = ix then .int p4 else fN k) fA
set_option maxRecDepth 65536 in
set_option maxHeartbeats 40000000 in
theorem rm10 (l : Launch) (Z : State) (a0 : Array Value) (hw : ∀ d ∈ tables_1, d.before a0 Z = true) (ws : List Jvm.Cond) (a1 : Addr) (p2 : Int32) (p3 : Int32) (p4 : Int32) (al : Int32) (cnt : Int32) (bN : Addr) (bA : Addr) (nN : Nat) (nA : Nat) (fN : Nat → Value) (fA : Nat → Value) (ix : Nat) (h0 : Heap) (n0 : Nat) (Z0 : n0 ≤ h0.size) (HB : own_B Z h0 n0 a1 al cnt bN bA nN nA fN fA) (hix : (p2 * al + p3).toInt = ix) (hin : ix < nN) :
    MetFree l (⟨"com/example/boxwise/boxwise/Dfa$Builder", "setNext", "(III)V"⟩ : MethodName) (head1 (Jvm.Cond.code (⟨"com/example/boxwise/boxwise/Dfa$Builder", "setNext", "(III)V"⟩ : MethodName) prog_18_method_5_code 4 none :: ws) ({ frames := 0, cells := 0, slots := 0, locals := 0 } : Room)) (fun a U => a = #[(.ref a1), (.int p2), (.int p3), (.int p4)] ∧ Z.Warmed39 U.vm ∧ U.heap = h0) (fun _ _ _ _ _ => True) (fun _ U o U' => ∃ v L, o = .returned v ∧ Q10 Z a1 p2 p3 p4 al cnt bN bA nN nA fN fA ix h0 n0 v U'.heap L ∧ FrameEnd U o U' L ({ frames := 0, cells := 0, slots := 0, locals := 0 } : Room).cells ({ frames := 0, cells := 0, slots := 0, locals := 0 } : Room).slots) := by
  refine MetFree.of_bodySF (plainFor_of_name pn_10) hisR ?_
  intro p e s m args below meth c s₁ Bd hml0 hP hK
  obtain ⟨rfl, hZ, hh⟩ := hP
  have hx := Bd.exec
  have hby := Bd.bytes
  have hml : c.maxLocals = 4 := hml0
  have hown : s.vm.findClass "com/example/boxwise/boxwise/Dfa$Builder" = some m.cls := findClass_of_methodNamed Bd.named
  have hnm := (name_of_methodNamed Bd.named Bd.method).1
  have X0 : Stand p l e ({ frames := 0, cells := 0, slots := 0, locals := 0 } : Room) s m #[(.ref a1), (.int p2), (.int p3), (.int p4)] below meth c s₁ [] 0 0 := Stand.of_body Bd
  have e0 : s₁.heap = h0 := by rw [← hh, Bd.state]; rfl
  have N0 := Fr.nil n0
  have a0s : ∀ t, Steps p.tables e below (s₁.setTop (mkF m 0 #[.val (.ref a1), .val (.int p2), .val (.int p3), .val (.int p4)] [])) t → Steps p.tables e below (s₁.setTop (entryFrame m #[(.ref a1), (.int p2), (.int p3), (.int p4)] 4)) t := fun t k => castTop (ef_rm10 m a1 p2 p3 p4) k
  obtain ⟨E1, F_n, F_a, F_s, F_c, V_N, V_A, ne_a1_bN, ne_a1_bA, ne_bN_bA, g_bN, g_bA⟩ := HB
  have ac1 : ∀ t, Steps p.tables e below (s₁.setTop (mkF m 1 #[.val (.ref a1), .val (.int p2), .val (.int p3), .val (.int p4)] [(.ref a1)])) t → Steps p.tables e below (s₁.setTop (entryFrame m #[(.ref a1), (.int p2), (.int p3), (.int p4)] 4)) t := fun t k => a0s t (by
      show Steps p.tables e below (s₁.setTop (mkF m 0 #[.val (.ref a1), .val (.int p2), .val (.int p3), .val (.int p4)] [])) _
      refine XS.aloadN X0.here hx rfl (hb hby d10_0) rfl rfl ?_
      exact k)
  obtain ⟨T2, X2, e2, st2⟩ := getF X0 hx hZ hown (host := "") (Or.inl (hw _ (List.mem_of_getElem? (i := 10) rfl))) Via.refl e0 F_n (g := (mkF m 1 #[.val (.ref a1), .val (.int p2), .val (.int p3), .val (.int p4)] [(.ref a1)])) rfl rfl (hb hby d10_1)
  have ac3 : ∀ t, Steps p.tables e below (T2.setTop (mkF m 4 #[.val (.ref a1), .val (.int p2), .val (.int p3), .val (.int p4)] [(.ref bN)])) t → Steps p.tables e below (s₁.setTop (entryFrame m #[(.ref a1), (.int p2), (.int p3), (.int p4)] 4)) t := fun t k => ac1 t (st2 t k)
  have ac4 : ∀ t, Steps p.tables e below (T2.setTop (mkF m 6 #[.val (.ref a1), .val (.int p2), .val (.int p3), .val (.int p4)] [(.ref a1), (.int p2), (.ref bN)])) t → Steps p.tables e below (s₁.setTop (entryFrame m #[(.ref a1), (.int p2), (.int p3), (.int p4)] 4)) t := fun t k => ac3 t (by
      show Steps p.tables e below (T2.setTop (mkF m 4 #[.val (.ref a1), .val (.int p2), .val (.int p3), .val (.int p4)] [(.ref bN)])) _
      refine XS.iloadN X2.here hx rfl (hb hby d10_4) rfl ?_
      show Steps p.tables e below (T2.setTop (mkF m 5 #[.val (.ref a1), .val (.int p2), .val (.int p3), .val (.int p4)] [(.int p2), (.ref bN)])) _
      refine XS.aloadN X2.here hx rfl (hb hby d10_5) rfl rfl ?_
      exact k)
  obtain ⟨T5, X5, e5, st5⟩ := getF X2 hx hZ hown (host := "") (Or.inl (hw _ (List.mem_of_getElem? (i := 15) rfl))) Via.refl e2 F_s (g := (mkF m 6 #[.val (.ref a1), .val (.int p2), .val (.int p3), .val (.int p4)] [(.ref a1), (.int p2), (.ref bN)])) rfl rfl (hb hby d10_6)
  have ac6 : ∀ t, Steps p.tables e below (T5.setTop (mkF m 9 #[.val (.ref a1), .val (.int p2), .val (.int p3), .val (.int p4)] [(.int al), (.int p2), (.ref bN)])) t → Steps p.tables e below (s₁.setTop (entryFrame m #[(.ref a1), (.int p2), (.int p3), (.int p4)] 4)) t := fun t k => ac4 t (st5 t k)
  have ac7 : ∀ t, Steps p.tables e below (T5.setTop (mkF m 13 #[.val (.ref a1), .val (.int p2), .val (.int p3), .val (.int p4)] [(.int p4), (.int ((p2 * al) + p3)), (.ref bN)])) t → Steps p.tables e below (s₁.setTop (entryFrame m #[(.ref a1), (.int p2), (.int p3), (.int p4)] 4)) t := fun t k => ac6 t (by
      show Steps p.tables e below (T5.setTop (mkF m 9 #[.val (.ref a1), .val (.int p2), .val (.int p3), .val (.int p4)] [(.int al), (.int p2), (.ref bN)])) _
      refine XS.imul X5.here hx rfl (hb hby d10_9) rfl ?_
      show Steps p.tables e below (T5.setTop (mkF m 10 #[.val (.ref a1), .val (.int p2), .val (.int p3), .val (.int p4)] [(.int (p2 * al)), (.ref bN)])) _
      refine XS.iloadN X5.here hx rfl (hb hby d10_10) rfl ?_
      show Steps p.tables e below (T5.setTop (mkF m 11 #[.val (.ref a1), .val (.int p2), .val (.int p3), .val (.int p4)] [(.int p3), (.int (p2 * al)), (.ref bN)])) _
      refine XS.iadd X5.here hx rfl (hb hby d10_11) rfl ?_
      show Steps p.tables e below (T5.setTop (mkF m 12 #[.val (.ref a1), .val (.int p2), .val (.int p3), .val (.int p4)] [(.int ((p2 * al) + p3)), (.ref bN)])) _
      refine XS.iloadN X5.here hx rfl (hb hby d10_12) rfl ?_
      exact k)
  obtain ⟨cl8, Ac8, hin8, -⟩ := V_N.at (j := ((p2 * al) + p3)) (i := ix) hix hin
  obtain ⟨T8, h8, X8, e8, W8, st8⟩ := stI X5 hx hZ e5 Ac8 (j := ((p2 * al) + p3)) hin8 (g := (mkF m 13 #[.val (.ref a1), .val (.int p2), .val (.int p3), .val (.int p4)] [(.int p4), (.int ((p2 * al) + p3)), (.ref bN)])) rfl rfl (hb hby d10_13)
  have V8 := V_N.set (i := ix) hix W8 rfl
  have Ef9 := E1.wr W8
  have Ff10 := F_n.other W8 (Or.inl ne_a1_bN)
  have Ff11 := F_a.other W8 (Or.inl ne_a1_bN)
  have Ff12 := F_s.other W8 (Or.inl ne_a1_bN)
  have Ff13 := F_c.other W8 (Or.inl ne_a1_bN)
  have Vf14 := V_A.other W8 (Ne.symm ne_bN_bA)
  have N8 := Fr.snoc X8 N0 g_bN
  have Z8 : n0 ≤ h8.size := Nat.le_trans Z0 (Keep.of_wr W8).1
  have Kp15 : Keep h0 h8 [bN] := (Keep.refl h0 [bN]).wr W8 (Or.inl (List.mem_of_getElem? (i := 0) rfl))
  have ac16 : ∀ t, Steps p.tables e below (T8.setTop (mkF m 14 #[.val (.ref a1), .val (.int p2), .val (.int p3), .val (.int p4)] [])) t → Steps p.tables e below (s₁.setTop (entryFrame m #[(.ref a1), (.int p2), (.int p3), (.int p4)] 4)) t := fun t k => ac7 t (st8 t k)
  obtain ⟨fs, hr, hrun, hended, hW, hsame⟩ := X8.leave (v := none) (fun _ => rfl) (BodyLoose.notSynchronized Bd)
  refine ⟨_, _, ac16 _ ?_, hrun, hended, _, _, rfl, ?_, ⟨_, rfl⟩, hW, hsame.mono (by decide) (by decide)⟩
  · show Steps p.tables e below (T8.setTop (mkF m 14 #[.val (.ref a1), .val (.int p2), .val (.int p3), .val (.int p4)] [])) _
    exact X8.returnOut hx Bd.returns (hb hby d10_14) hr
  · show Q10 Z a1 p2 p3 p4 al cnt bN bA nN nA fN fA ix h0 n0 _ T8.heap _
    rw [e8]
    exact ⟨rfl, N8, Kp15, ⟨Ef9, Ff10, Ff11, Ff12, Ff13, V8, Vf14, ne_a1_bN, ne_a1_bA, ne_bN_bA, g_bN, g_bA⟩⟩
theorem ef_rm11 (m : MethodId) (x0 : Addr) (x1 : Int32) (x2 : Int32) : entryFrame m #[(.ref x0), (.int x1), (.int x2)] 3 = mkF m 0 #[.val (.ref x0), .val (.int x1), .val (.int x2)] [] := by first | (simp [entryFrame, mkF, argsToLocals, Value.category]; done) | rfl
def Q11 (Z : State) (a1 : Addr) (p2 : Int32) (p3 : Int32) (al : Int32) (cnt : Int32) (bN : Addr) (bA : Addr) (nN : Nat) (nA : Nat) (fN : Nat → Value) (fA : Nat → Value) (ix : Nat) (xv : Int32) (h0 : Heap) (n0 : Nat) (v : Option Value) (h : Heap) (L : List Loc) : Prop := v = some (.int xv) ∧ Fr n0 L ∧ h = h0
set_option maxRecDepth 65536 in
set_option maxHeartbeats 40000000 in
theorem rm11 (l : Launch) (Z : State) (a0 : Array Value) (hw : ∀ d ∈ tables_1, d.before a0 Z = true) (ws : List Jvm.Cond) (a1 : Addr) (p2 : Int32) (p3 : Int32) (al : Int32) (cnt : Int32) (bN : Addr) (bA : Addr) (nN : Nat) (nA : Nat) (fN : Nat → Value) (fA : Nat → Value) (ix : Nat) (xv : Int32) (h0 : Heap) (n0 : Nat) (Z0 : n0 ≤ h0.size) (HB : own_B Z h0 n0 a1 al cnt bN bA nN nA fN fA) (hix : (p2 * al + p3).toInt = ix) (hin : ix < nN) (hxv : fN ix = .int xv) :
    MetFree l (⟨"com/example/boxwise/boxwise/Dfa$Builder", "next", "(II)I"⟩ : MethodName) (head1 (Jvm.Cond.code (⟨"com/example/boxwise/boxwise/Dfa$Builder", "next", "(II)I"⟩ : MethodName) prog_18_method_4_code 3 (some .int) :: ws) ({ frames := 0, cells := 0, slots := 0, locals := 0 } : Room)) (fun a U => a = #[(.ref a1), (.int p2), (.int p3)] ∧ Z.Warmed39 U.vm ∧ U.heap = h0) (fun _ _ _ _ _ => True) (fun _ U o U' => ∃ v L, o = .returned v ∧ Q11 Z a1 p2 p3 al cnt bN bA nN nA fN fA ix xv h0 n0 v U'.heap L ∧ FrameEnd U o U' L ({ frames := 0, cells := 0, slots := 0, locals := 0 } : Room).cells ({ frames := 0, cells := 0, slots := 0, locals := 0 } : Room).slots) := by
  refine MetFree.of_bodySF (plainFor_of_name pn_11) hisR ?_
  intro p e s m args below meth c s₁ Bd hml0 hP hK
  obtain ⟨rfl, hZ, hh⟩ := hP
  have hx := Bd.exec
  have hby := Bd.bytes
  have hml : c.maxLocals = 3 := hml0
  have hown : s.vm.findClass "com/example/boxwise/boxwise/Dfa$Builder" = some m.cls := findClass_of_methodNamed Bd.named
  have hnm := (name_of_methodNamed Bd.named Bd.method).1
  have X0 : Stand p l e ({ frames := 0, cells := 0, slots := 0, locals := 0 } : Room) s m #[(.ref a1), (.int p2), (.int p3)] below meth c s₁ [] 0 0 := Stand.of_body Bd
  have e0 : s₁.heap = h0 := by rw [← hh, Bd.state]; rfl
  have N0 := Fr.nil n0
  have a0s : ∀ t, Steps p.tables e below (s₁.setTop (mkF m 0 #[.val (.ref a1), .val (.int p2), .val (.int p3)] [])) t → Steps p.tables e below (s₁.setTop (entryFrame m #[(.ref a1), (.int p2), (.int p3)] 3)) t := fun t k => castTop (ef_rm11 m a1 p2 p3) k
  obtain ⟨E1, F_n, F_a, F_s, F_c, V_N, V_A, ne_a1_bN, ne_a1_bA, ne_bN_bA, g_bN, g_bA⟩ := HB
  have ac1 : ∀ t, Steps p.tables e below (s₁.setTop (mkF m 1 #[.val (.ref a1), .val (.int p2), .val (.int p3)] [(.ref a1)])) t → Steps p.tables e below (s₁.setTop (entryFrame m #[(.ref a1), (.int p2), (.int p3)] 3)) t := fun t k => a0s t (by
      show Steps p.tables e below (s₁.setTop (mkF m 0 #[.val (.ref a1), .val (.int p2), .val (.int p3)] [])) _
      refine XS.aloadN X0.here hx rfl (hb hby d11_0) rfl rfl ?_
      exact k)
  obtain ⟨T2, X2, e2, st2⟩ := getF X0 hx hZ hown (host := "") (Or.inl (hw _ (List.mem_of_getElem? (i := 10) rfl))) Via.refl e0 F_n (g := (mkF m 1 #[.val (.ref a1), .val (.int p2), .val (.int p3)] [(.ref a1)])) rfl rfl (hb hby d11_1)
  have ac3 : ∀ t, Steps p.tables e below (T2.setTop (mkF m 4 #[.val (.ref a1), .val (.int p2), .val (.int p3)] [(.ref bN)])) t → Steps p.tables e below (s₁.setTop (entryFrame m #[(.ref a1), (.int p2), (.int p3)] 3)) t := fun t k => ac1 t (st2 t k)
  have ac4 : ∀ t, Steps p.tables e below (T2.setTop (mkF m 6 #[.val (.ref a1), .val (.int p2), .val (.int p3)] [(.ref a1), (.int p2), (.ref bN)])) t → Steps p.tables e below (s₁.setTop (entryFrame m #[(.ref a1), (.int p2), (.int p3)] 3)) t := fun t k => ac3 t (by
      show Steps p.tables e below (T2.setTop (mkF m 4 #[.val (.ref a1), .val (.int p2), .val (.int p3)] [(.ref bN)])) _
      refine XS.iloadN X2.here hx rfl (hb hby d11_4) rfl ?_
      show Steps p.tables e below (T2.setTop (mkF m 5 #[.val (.ref a1), .val (.int p2), .val (.int p3)] [(.int p2), (.ref bN)])) _
      refine XS.aloadN X2.here hx rfl (hb hby d11_5) rfl rfl ?_
      exact k)
  obtain ⟨T5, X5, e5, st5⟩ := getF X2 hx hZ hown (host := "") (Or.inl (hw _ (List.mem_of_getElem? (i := 15) rfl))) Via.refl e2 F_s (g := (mkF m 6 #[.val (.ref a1), .val (.int p2), .val (.int p3)] [(.ref a1), (.int p2), (.ref bN)])) rfl rfl (hb hby d11_6)
  have ac6 : ∀ t, Steps p.tables e below (T5.setTop (mkF m 9 #[.val (.ref a1), .val (.int p2), .val (.int p3)] [(.int al), (.int p2), (.ref bN)])) t → Steps p.tables e below (s₁.setTop (entryFrame m #[(.ref a1), (.int p2), (.int p3)] 3)) t := fun t k => ac4 t (st5 t k)
  have ac7 : ∀ t, Steps p.tables e below (T5.setTop (mkF m 12 #[.val (.ref a1), .val (.int p2), .val (.int p3)] [(.int ((p2 * al) + p3)), (.ref bN)])) t → Steps p.tables e below (s₁.setTop (entryFrame m #[(.ref a1), (.int p2), (.int p3)] 3)) t := fun t k => ac6 t (by
      show Steps p.tables e below (T5.setTop (mkF m 9 #[.val (.ref a1), .val (.int p2), .val (.int p3)] [(.int al), (.int p2), (.ref bN)])) _
      refine XS.imul X5.here hx rfl (hb hby d11_9) rfl ?_
      show Steps p.tables e below (T5.setTop (mkF m 10 #[.val (.ref a1), .val (.int p2), .val (.int p3)] [(.int (p2 * al)), (.ref bN)])) _
      refine XS.iloadN X5.here hx rfl (hb hby d11_10) rfl ?_
      show Steps p.tables e below (T5.setTop (mkF m 11 #[.val (.ref a1), .val (.int p2), .val (.int p3)] [(.int p3), (.int (p2 * al)), (.ref bN)])) _
      refine XS.iadd X5.here hx rfl (hb hby d11_11) rfl ?_
      exact k)
  obtain ⟨cl8, Ac8, hin8, hat8⟩ := V_N.at (j := ((p2 * al) + p3)) (i := ix) hix hin
  have ac9 : ∀ t, Steps p.tables e below (T5.setTop (mkF m 13 #[.val (.ref a1), .val (.int p2), .val (.int p3)] [(.int xv)])) t → Steps p.tables e below (s₁.setTop (entryFrame m #[(.ref a1), (.int p2), (.int p3)] 3)) t := fun t k => ac7 t (by
      show Steps p.tables e below (T5.setTop (mkF m 12 #[.val (.ref a1), .val (.int p2), .val (.int p3)] [(.int ((p2 * al) + p3)), (.ref bN)])) _
      refine X5.iaload hx (j := ((p2 * al) + p3)) (v := (.int xv)) (by rw [e5]; exact Ac8.1) (State.isArrayOf_alike hZ.alike Ac8.2.1) Ac8.2.2 hin8 (hat8.trans (congrArg some hxv)) (g := (mkF m 12 #[.val (.ref a1), .val (.int p2), .val (.int p3)] [(.int ((p2 * al) + p3)), (.ref bN)])) rfl rfl (hb hby d11_12) _ ?_
      exact k)
  obtain ⟨fs, hr, hrun, hended, hW, hsame⟩ := X5.leave (v := some (.int xv)) (fun h => by rw [Bd.returns] at h; cases h) (BodyLoose.notSynchronized Bd)
  refine ⟨_, _, ac9 _ ?_, hrun, hended, _, _, rfl, ?_, ⟨_, rfl⟩, hW, hsame.mono (by decide) (by decide)⟩
  · show Steps p.tables e below (T5.setTop (mkF m 13 #[.val (.ref a1), .val (.int p2), .val (.int p3)] [(.int xv)])) _
    exact retI X5 hx Bd.returns (hb hby d11_13) hr
  · show Q11 Z a1 p2 p3 al cnt bN bA nN nA fN fA ix xv h0 n0 _ T5.heap _
    rw [e5]
    exact ⟨rfl, N0, rfl⟩
theorem ef_rm0 (m : MethodId) (x0 : Int32) (x1 : Int32) (x2 : Int32) (x3 : Int32) (x4 : Int32) (x5 : Int32) : entryFrame m #[(.int x0), (.int x1), (.int x2), (.int x3), (.int x4), (.int x5)] maxLocals = mkF m 0 #[.val (.int x0), .val (.int x1), .val (.int x2), .val (.int x3), .val (.int x4), .val (.int x5), .unset, .unset, .unset, .unset, .unset, .unset, .unset, .unset, .unset, .unset, .unset] [] := by first | (simp [entryFrame, mkF, argsToLocals, Value.category, maxLocals]; done) | rfl
def Q0 (Z : State) (sh : Int32) (cA : Int32) (cB : Int32) (cC : Int32) (t1 : Int32) (t2 : Int32) (h0 : Heap) (n0 : Nat) (v : Option Value) (h : Heap) (L : List Loc) : Prop := v = some (.int 1) ∧ Fr n0 L
set_option maxRecDepth 65536 in
set_option maxHeartbeats 40000000 in
theorem rm0 (l : Launch) (Z : State) (a0 : Array Value) (hw : ∀ d ∈ tables_1, d.before a0 Z = true) (ws : List Jvm.Cond) (sh : Int32) (cA : Int32) (cB : Int32) (cC : Int32) (t1 : Int32) (t2 : Int32) (h0 : Heap) (n0 : Nat) (Z0 : n0 ≤ h0.size) :
    MetFree l x (head1 (Jvm.Cond.code x code maxLocals ret :: ws) room_1) (fun a U => a = #[(.int sh), (.int cA), (.int cB), (.int cC), (.int t1), (.int t2)] ∧ Z.Warmed39 U.vm ∧ U.heap = h0) (fun _ _ _ _ _ => True) (fun _ U o U' => ∃ v L, o = .returned v ∧ Q0 Z sh cA cB cC t1 t2 h0 n0 v U'.heap L ∧ FrameEnd U o U' L room_1.cells room_1.slots) := by
  refine MetFree.of_bodySF (plainFor_of_name pn_0) hisR ?_
  intro p e s m args below meth c s₁ Bd hml0 hP hK
  obtain ⟨rfl, hZ, hh⟩ := hP
  have hx := Bd.exec
  have hby := Bd.bytes
  have hml : c.maxLocals = 17 := hml0
  have hown : s.vm.findClass "com/example/boxwise/boxwise/BuilderSetNextPinLaw" = some m.cls := findClass_of_methodNamed Bd.named
  have hnm := (name_of_methodNamed Bd.named Bd.method).1
  have X0 : Stand p l e room_1 s m #[(.int sh), (.int cA), (.int cB), (.int cC), (.int t1), (.int t2)] below meth c s₁ [] 0 0 := Stand.of_body Bd
  have e0 : s₁.heap = h0 := by rw [← hh, Bd.state]; rfl
  have N0 := Fr.nil n0
  have a0s : ∀ t, Steps p.tables e below (s₁.setTop (mkF m 0 #[.val (.int sh), .val (.int cA), .val (.int cB), .val (.int cC), .val (.int t1), .val (.int t2), .unset, .unset, .unset, .unset, .unset, .unset, .unset, .unset, .unset, .unset, .unset] [])) t → Steps p.tables e below (s₁.setTop (entryFrame m #[(.int sh), (.int cA), (.int cB), (.int cC), (.int t1), (.int t2)] maxLocals)) t := fun t k => castTop (ef_rm0 m sh cA cB cC t1 t2) k
  obtain ⟨an, h1a, h8a, hal⟩ := own_al sh
  have ac1 : ∀ t, Steps p.tables e below (s₁.setTop (mkF m 7 #[.val (.int sh), .val (.int cA), .val (.int cB), .val (.int cC), .val (.int t1), .val (.int t2), .val (.int ((sh &&& (3 : Int32)) + (1 : Int32))), .unset, .unset, .unset, .unset, .unset, .unset, .unset, .unset, .unset, .unset] [])) t → Steps p.tables e below (s₁.setTop (entryFrame m #[(.int sh), (.int cA), (.int cB), (.int cC), (.int t1), (.int t2)] maxLocals)) t := fun t k => a0s t (by
      show Steps p.tables e below (s₁.setTop (mkF m 0 #[.val (.int sh), .val (.int cA), .val (.int cB), .val (.int cC), .val (.int t1), .val (.int t2), .unset, .unset, .unset, .unset, .unset, .unset, .unset, .unset, .unset, .unset, .unset] [])) _
      refine XS.iloadN X0.here hx rfl (hb hby at_0) rfl ?_
      show Steps p.tables e below (s₁.setTop (mkF m 1 #[.val (.int sh), .val (.int cA), .val (.int cB), .val (.int cC), .val (.int t1), .val (.int t2), .unset, .unset, .unset, .unset, .unset, .unset, .unset, .unset, .unset, .unset, .unset] [(.int sh)])) _
      refine XS.iconst X0.here hx rfl (hb hby at_1) ?_
      show Steps p.tables e below (s₁.setTop (mkF m 2 #[.val (.int sh), .val (.int cA), .val (.int cB), .val (.int cC), .val (.int t1), .val (.int t2), .unset, .unset, .unset, .unset, .unset, .unset, .unset, .unset, .unset, .unset, .unset] [(.int (3 : Int32)), (.int sh)])) _
      refine XS.iand X0.here hx rfl (hb hby at_2) rfl ?_
      show Steps p.tables e below (s₁.setTop (mkF m 3 #[.val (.int sh), .val (.int cA), .val (.int cB), .val (.int cC), .val (.int t1), .val (.int t2), .unset, .unset, .unset, .unset, .unset, .unset, .unset, .unset, .unset, .unset, .unset] [(.int (sh &&& (3 : Int32)))])) _
      refine XS.iconst X0.here hx rfl (hb hby at_3) ?_
      show Steps p.tables e below (s₁.setTop (mkF m 4 #[.val (.int sh), .val (.int cA), .val (.int cB), .val (.int cC), .val (.int t1), .val (.int t2), .unset, .unset, .unset, .unset, .unset, .unset, .unset, .unset, .unset, .unset, .unset] [(.int (1 : Int32)), (.int (sh &&& (3 : Int32)))])) _
      refine XS.iadd X0.here hx rfl (hb hby at_4) rfl ?_
      show Steps p.tables e below (s₁.setTop (mkF m 5 #[.val (.int sh), .val (.int cA), .val (.int cB), .val (.int cC), .val (.int t1), .val (.int t2), .unset, .unset, .unset, .unset, .unset, .unset, .unset, .unset, .unset, .unset, .unset] [(.int ((sh &&& (3 : Int32)) + (1 : Int32)))])) _
      refine XS.istore X0.here hx rfl (hb hby at_5) rfl (l' := #[.val (.int sh), .val (.int cA), .val (.int cB), .val (.int cC), .val (.int t1), .val (.int t2), .val (.int ((sh &&& (3 : Int32)) + (1 : Int32))), .unset, .unset, .unset, .unset, .unset, .unset, .unset, .unset, .unset, .unset]) rfl ?_
      exact k)
  obtain ⟨al, e_al⟩ : ∃ z : Int32, z = ((sh &&& (3 : Int32)) + (1 : Int32)) := ⟨_, rfl⟩
  rw [← e_al] at ac1
  rw [← e_al] at hal
  obtain ⟨T2, h2, X2, e2, E2, A2, D2, -, st2⟩ := newO X0 hx hZ hown (hw _ (List.mem_of_getElem? (i := 0) rfl)) (hw _ (List.mem_of_getElem? (i := 1) rfl)) (hw _ (List.mem_of_getElem? (i := 2) rfl)) e0 (g := (mkF m 7 #[.val (.int sh), .val (.int cA), .val (.int cB), .val (.int cC), .val (.int t1), .val (.int t2), .val (.int al), .unset, .unset, .unset, .unset, .unset, .unset, .unset, .unset, .unset, .unset] [])) rfl (hb hby at_7) (by decide) (by decide)
  obtain ⟨b2, g2⟩ : ∃ z, z = h0.size := ⟨_, rfl⟩
  rw [← g2] at A2 D2 st2
  have g_b2 : n0 ≤ b2 := Nat.le_trans Z0 (Nat.le_of_eq g2.symm)
  have Z2 : n0 ≤ h2.size := Nat.le_trans Z0 E2.1
  have F_next_b2 : Fld Z h2 b2 "com/example/boxwise/boxwise/Dfa$Builder" "next" "[I" .null := D2 (Or.inl (hw _ (List.mem_of_getElem? (i := 11) rfl))) (ty := (.array .int)) (by decide)
  have F_accepting_b2 : Fld Z h2 b2 "com/example/boxwise/boxwise/Dfa$Builder" "accepting" "[Z" .null := D2 (Or.inl (hw _ (List.mem_of_getElem? (i := 14) rfl))) (ty := (.array .boolean)) (by decide)
  have F_alphabetSize_b2 : Fld Z h2 b2 "com/example/boxwise/boxwise/Dfa$Builder" "alphabetSize" "I" (.int (0 : Int32)) := D2 (Or.inr (hw _ (List.mem_of_getElem? (i := 16) rfl))) (ty := .int) (by decide)
  have F_stateCount_b2 : Fld Z h2 b2 "com/example/boxwise/boxwise/Dfa$Builder" "stateCount" "I" (.int (0 : Int32)) := D2 (Or.inl (hw _ (List.mem_of_getElem? (i := 23) rfl))) (ty := .int) (by decide)
  have ac3 : ∀ t, Steps p.tables e below (T2.setTop (mkF m 10 #[.val (.int sh), .val (.int cA), .val (.int cB), .val (.int cC), .val (.int t1), .val (.int t2), .val (.int al), .unset, .unset, .unset, .unset, .unset, .unset, .unset, .unset, .unset, .unset] [(.ref b2)])) t → Steps p.tables e below (s₁.setTop (entryFrame m #[(.int sh), (.int cA), (.int cB), (.int cC), (.int t1), (.int t2)] maxLocals)) t := fun t k => ac1 t (st2 t k)
  have ac4 : ∀ t, Steps p.tables e below (T2.setTop (mkF m 13 #[.val (.int sh), .val (.int cA), .val (.int cB), .val (.int cC), .val (.int t1), .val (.int t2), .val (.int al), .unset, .unset, .unset, .unset, .unset, .unset, .unset, .unset, .unset, .unset] [(.int al), (.ref b2), (.ref b2)])) t → Steps p.tables e below (s₁.setTop (entryFrame m #[(.int sh), (.int cA), (.int cB), (.int cC), (.int t1), (.int t2)] maxLocals)) t := fun t k => ac3 t (by
      show Steps p.tables e below (T2.setTop (mkF m 10 #[.val (.int sh), .val (.int cA), .val (.int cB), .val (.int cC), .val (.int t1), .val (.int t2), .val (.int al), .unset, .unset, .unset, .unset, .unset, .unset, .unset, .unset, .unset, .unset] [(.ref b2)])) _
      refine XS.dup X2.here hx rfl (hb hby at_10) rfl rfl ?_
      show Steps p.tables e below (T2.setTop (mkF m 11 #[.val (.int sh), .val (.int cA), .val (.int cB), .val (.int cC), .val (.int t1), .val (.int t2), .val (.int al), .unset, .unset, .unset, .unset, .unset, .unset, .unset, .unset, .unset, .unset] [(.ref b2), (.ref b2)])) _
      refine XS.iload X2.here hx rfl (hb hby at_11) rfl ?_
      exact k)
  obtain ⟨_, _, ⟨T5, L5, k5, n5⟩, -, X5, ⟨Lc5, hQ5, l5, y5, z5⟩, st5⟩ := X2.specialBack hx (y := (⟨"com/example/boxwise/boxwise/Dfa$Builder", "<init>", "(I)V"⟩ : MethodName)) rfl hown (mvT hZ (hw _ (List.mem_of_getElem? (i := 3) rfl))) (mvT hZ (hw _ (List.mem_of_getElem? (i := 4) rfl))) (mvT hZ (hw _ (List.mem_of_getElem? (i := 5) rfl))) (by decide) (backOf (W := 1) (rm1 l Z a0 hw [] b2 al  h2 n0 Z2 A2 g_b2 F_next_b2 F_accepting_b2 F_alphabetSize_b2 F_stateCount_b2) hZ (hw _ (List.mem_of_getElem? (i := 5) rfl)) (hw _ (List.mem_of_getElem? (i := 2) rfl)) (by decide) (by decide)) (g := (mkF m 13 #[.val (.int sh), .val (.int cA), .val (.int cB), .val (.int cC), .val (.int t1), .val (.int t2), .val (.int al), .unset, .unset, .unset, .unset, .unset, .unset, .unset, .unset, .unset, .unset] [(.int al), (.ref b2), (.ref b2)])) rfl (by rw [hml]; rfl) (Steps.refl _) (a := b2) (argsL := [(.int al)]) (rest := [(.ref b2)]) (lenOf pd_0 rfl) rfl (by show 2 * 0 + _ ≤ _; exact Nat.le_of_eq rfl) (hb hby at_13) (fun _ _ => ⟨rfl, e2, (by decide : 1 + 2 ≤ _), (by decide : 4 + 0 ≤ _)⟩)
  dsimp only [Pt.U, Pt.locs, Pt.cells, Pt.slots] at X5 l5 y5 z5 st5 hQ5
  subst l5 y5 z5
  obtain ⟨rfl, N5q, K5q, ⟨bN5, bA5, fN5, fA5, HB5⟩⟩ := hQ5
  have N5 := Fr.app N0 N5q
  have Ef6 := A2.keep K5q
  have Z5 : n0 ≤ T5.heap.size := Nat.le_trans Z2 K5q.1
  have ac7 : ∀ t, Steps p.tables e below (T5.setTop (mkF m 16 #[.val (.int sh), .val (.int cA), .val (.int cB), .val (.int cC), .val (.int t1), .val (.int t2), .val (.int al), .unset, .unset, .unset, .unset, .unset, .unset, .unset, .unset, .unset, .unset] [(.ref b2)])) t → Steps p.tables e below (s₁.setTop (entryFrame m #[(.int sh), (.int cA), (.int cB), (.int cC), (.int t1), (.int t2)] maxLocals)) t := fun t k => ac4 t (st5.trans k)
  have ac8 : ∀ t, Steps p.tables e below (T5.setTop (mkF m 23 #[.val (.int sh), .val (.int cA), .val (.int cB), .val (.int cC), .val (.int t1), .val (.int t2), .val (.int al), .val (.ref b2), .unset, .unset, .unset, .unset, .unset, .unset, .unset, .unset, .unset] [(.int (sh &&& (4 : Int32))), (.ref b2)])) t → Steps p.tables e below (s₁.setTop (entryFrame m #[(.int sh), (.int cA), (.int cB), (.int cC), (.int t1), (.int t2)] maxLocals)) t := fun t k => ac7 t (by
      show Steps p.tables e below (T5.setTop (mkF m 16 #[.val (.int sh), .val (.int cA), .val (.int cB), .val (.int cC), .val (.int t1), .val (.int t2), .val (.int al), .unset, .unset, .unset, .unset, .unset, .unset, .unset, .unset, .unset, .unset] [(.ref b2)])) _
      refine XS.astore X5.here hx rfl (hb hby at_16) rfl rfl (l' := #[.val (.int sh), .val (.int cA), .val (.int cB), .val (.int cC), .val (.int t1), .val (.int t2), .val (.int al), .val (.ref b2), .unset, .unset, .unset, .unset, .unset, .unset, .unset, .unset, .unset]) rfl ?_
      show Steps p.tables e below (T5.setTop (mkF m 18 #[.val (.int sh), .val (.int cA), .val (.int cB), .val (.int cC), .val (.int t1), .val (.int t2), .val (.int al), .val (.ref b2), .unset, .unset, .unset, .unset, .unset, .unset, .unset, .unset, .unset] [])) _
      refine XS.aload X5.here hx rfl (hb hby at_18) rfl rfl ?_
      show Steps p.tables e below (T5.setTop (mkF m 20 #[.val (.int sh), .val (.int cA), .val (.int cB), .val (.int cC), .val (.int t1), .val (.int t2), .val (.int al), .val (.ref b2), .unset, .unset, .unset, .unset, .unset, .unset, .unset, .unset, .unset] [(.ref b2)])) _
      refine XS.iloadN X5.here hx rfl (hb hby at_20) rfl ?_
      show Steps p.tables e below (T5.setTop (mkF m 21 #[.val (.int sh), .val (.int cA), .val (.int cB), .val (.int cC), .val (.int t1), .val (.int t2), .val (.int al), .val (.ref b2), .unset, .unset, .unset, .unset, .unset, .unset, .unset, .unset, .unset] [(.int sh), (.ref b2)])) _
      refine XS.iconst X5.here hx rfl (hb hby at_21) ?_
      show Steps p.tables e below (T5.setTop (mkF m 22 #[.val (.int sh), .val (.int cA), .val (.int cB), .val (.int cC), .val (.int t1), .val (.int t2), .val (.int al), .val (.ref b2), .unset, .unset, .unset, .unset, .unset, .unset, .unset, .unset, .unset] [(.int (4 : Int32)), (.int sh), (.ref b2)])) _
      refine XS.iand X5.here hx rfl (hb hby at_22) rfl ?_
      exact k)
  have ac9 : ∀ t, Steps p.tables e below (T5.setTop (mkF m 31 #[.val (.int sh), .val (.int cA), .val (.int cB), .val (.int cC), .val (.int t1), .val (.int t2), .val (.int al), .val (.ref b2), .unset, .unset, .unset, .unset, .unset, .unset, .unset, .unset, .unset] [(.int (own_flag (sh &&& (4 : Int32)))), (.ref b2)])) t → Steps p.tables e below (s₁.setTop (entryFrame m #[(.int sh), (.int cA), (.int cB), (.int cC), (.int t1), (.int t2)] maxLocals)) t := fun t k => ac8 t (by
      by_cases hm : (sh &&& (4 : Int32)) = (0 : Int32)
      ·
        show Steps p.tables e below (T5.setTop (mkF m 23 #[.val (.int sh), .val (.int cA), .val (.int cB), .val (.int cC), .val (.int t1), .val (.int t2), .val (.int al), .val (.ref b2), .unset, .unset, .unset, .unset, .unset, .unset, .unset, .unset, .unset] [(.int (sh &&& (4 : Int32))), (.ref b2)])) _
        refine XS.ifYes X5.here hx rfl (pc0 := 23) (pc' := 30) rfl (hb hby at_23) rfl ((if0 _ _).trans (teq hm).1) (by decide) (by decide) ?_
        show Steps p.tables e below (T5.setTop (mkF m 30 #[.val (.int sh), .val (.int cA), .val (.int cB), .val (.int cC), .val (.int t1), .val (.int t2), .val (.int al), .val (.ref b2), .unset, .unset, .unset, .unset, .unset, .unset, .unset, .unset, .unset] [(.ref b2)])) _
        refine XS.iconst X5.here hx rfl (hb hby at_30) ?_
        rw [own_flag_0 hm] at k; exact k
      ·
        show Steps p.tables e below (T5.setTop (mkF m 23 #[.val (.int sh), .val (.int cA), .val (.int cB), .val (.int cC), .val (.int t1), .val (.int t2), .val (.int al), .val (.ref b2), .unset, .unset, .unset, .unset, .unset, .unset, .unset, .unset, .unset] [(.int (sh &&& (4 : Int32))), (.ref b2)])) _
        refine XS.ifNo X5.here hx rfl (hb hby at_23) rfl ((if0 _ _).trans (feq hm).1) ?_
        show Steps p.tables e below (T5.setTop (mkF m 26 #[.val (.int sh), .val (.int cA), .val (.int cB), .val (.int cC), .val (.int t1), .val (.int t2), .val (.int al), .val (.ref b2), .unset, .unset, .unset, .unset, .unset, .unset, .unset, .unset, .unset] [(.ref b2)])) _
        refine XS.iconst X5.here hx rfl (hb hby at_26) ?_
        show Steps p.tables e below (T5.setTop (mkF m 27 #[.val (.int sh), .val (.int cA), .val (.int cB), .val (.int cC), .val (.int t1), .val (.int t2), .val (.int al), .val (.ref b2), .unset, .unset, .unset, .unset, .unset, .unset, .unset, .unset, .unset] [(.int (1 : Int32)), (.ref b2)])) _
        refine XS.goto X5.here hx rfl (pc0 := 27) (pc' := 31) rfl (hb hby at_27) (by decide) (by decide) ?_
        rw [own_flag_1 hm] at k; exact k)
  obtain ⟨cq10, kq10, q10a, q10b, q10c⟩ := isOf hZ rfl HB5.1
  obtain ⟨_, _, ⟨T10, L10, k10, n10⟩, -, X10, ⟨Lc10, hQ10, l10, y10, z10⟩, st10⟩ := X5.virtualBack hx (y := (⟨"com/example/boxwise/boxwise/Dfa$Builder", "addState", "(Z)I"⟩ : MethodName)) (z := (⟨"com/example/boxwise/boxwise/Dfa$Builder", "addState", "(Z)I"⟩ : MethodName)) hown (mvT hZ (hw _ (List.mem_of_getElem? (i := 17) rfl))) (mvT hZ (hw _ (List.mem_of_getElem? (i := 18) rfl))) (notFace_of_selects (args := #[]) (mvT hZ (hw _ (List.mem_of_getElem? (i := 20) rfl)))) (mvT hZ (hw _ (List.mem_of_getElem? (i := 20) rfl))) (mvT hZ (hw _ (List.mem_of_getElem? (i := 19) rfl))) (by decide) (backOf (W := 0) (rm3g l Z a0 hw [] b2 (own_flag (sh &&& (4 : Int32))) _ _ _ _ _ an T5.heap n0 Z5 HB5 hal h1a h8a g_b2) hZ (hw _ (List.mem_of_getElem? (i := 21) rfl)) (hw _ (List.mem_of_getElem? (i := 2) rfl)) (by decide) (by decide)) q10a q10c (g := (mkF m 31 #[.val (.int sh), .val (.int cA), .val (.int cB), .val (.int cC), .val (.int t1), .val (.int t2), .val (.int al), .val (.ref b2), .unset, .unset, .unset, .unset, .unset, .unset, .unset, .unset, .unset] [(.int (own_flag (sh &&& (4 : Int32)))), (.ref b2)])) rfl (by rw [hml]; rfl) (Steps.refl _) (argsL := [(.int (own_flag (sh &&& (4 : Int32))))]) (rest := []) (lenOf pd_2 rfl) rfl (by show 2 * 0 + _ ≤ _; exact Nat.le_of_eq rfl) (hb hby at_31) (fun _ _ => ⟨rfl, rfl, (by decide : 3 + 2 ≤ _), (by decide : 4 + 144 ≤ _)⟩)
  dsimp only [Pt.U, Pt.locs, Pt.cells, Pt.slots] at X10 l10 y10 z10 st10 hQ10
  subst l10 y10 z10
  obtain ⟨bN10, bA10, fA10, rfl, N10q, K10q, HB10⟩ := hQ10
  have N10 := Fr.app N5 N10q
  have Ef11 := HB5.1.keep K10q
  have Z10 : n0 ≤ T10.heap.size := Nat.le_trans Z5 K10q.1
  have ac12 : ∀ t, Steps p.tables e below (T10.setTop (mkF m 34 #[.val (.int sh), .val (.int cA), .val (.int cB), .val (.int cC), .val (.int t1), .val (.int t2), .val (.int al), .val (.ref b2), .unset, .unset, .unset, .unset, .unset, .unset, .unset, .unset, .unset] [(.int (0 : Int32))])) t → Steps p.tables e below (s₁.setTop (entryFrame m #[(.int sh), (.int cA), (.int cB), (.int cC), (.int t1), (.int t2)] maxLocals)) t := fun t k => ac9 t (st10.trans k)
  have ac13 : ∀ t, Steps p.tables e below (T10.setTop (mkF m 41 #[.val (.int sh), .val (.int cA), .val (.int cB), .val (.int cC), .val (.int t1), .val (.int t2), .val (.int al), .val (.ref b2), .unset, .unset, .unset, .unset, .unset, .unset, .unset, .unset, .unset] [(.int (sh &&& (8 : Int32))), (.ref b2)])) t → Steps p.tables e below (s₁.setTop (entryFrame m #[(.int sh), (.int cA), (.int cB), (.int cC), (.int t1), (.int t2)] maxLocals)) t := fun t k => ac12 t (by
      show Steps p.tables e below (T10.setTop (mkF m 34 #[.val (.int sh), .val (.int cA), .val (.int cB), .val (.int cC), .val (.int t1), .val (.int t2), .val (.int al), .val (.ref b2), .unset, .unset, .unset, .unset, .unset, .unset, .unset, .unset, .unset] [(.int (0 : Int32))])) _
      refine XS.pop X10.here hx rfl (hb hby at_34) rfl rfl ?_
      show Steps p.tables e below (T10.setTop (mkF m 35 #[.val (.int sh), .val (.int cA), .val (.int cB), .val (.int cC), .val (.int t1), .val (.int t2), .val (.int al), .val (.ref b2), .unset, .unset, .unset, .unset, .unset, .unset, .unset, .unset, .unset] [])) _
      refine XS.aload X10.here hx rfl (hb hby at_35) rfl rfl ?_
      show Steps p.tables e below (T10.setTop (mkF m 37 #[.val (.int sh), .val (.int cA), .val (.int cB), .val (.int cC), .val (.int t1), .val (.int t2), .val (.int al), .val (.ref b2), .unset, .unset, .unset, .unset, .unset, .unset, .unset, .unset, .unset] [(.ref b2)])) _
      refine XS.iloadN X10.here hx rfl (hb hby at_37) rfl ?_
      show Steps p.tables e below (T10.setTop (mkF m 38 #[.val (.int sh), .val (.int cA), .val (.int cB), .val (.int cC), .val (.int t1), .val (.int t2), .val (.int al), .val (.ref b2), .unset, .unset, .unset, .unset, .unset, .unset, .unset, .unset, .unset] [(.int sh), (.ref b2)])) _
      refine XS.bipush X10.here hx rfl (hb hby at_38) ?_
      show Steps p.tables e below (T10.setTop (mkF m 40 #[.val (.int sh), .val (.int cA), .val (.int cB), .val (.int cC), .val (.int t1), .val (.int t2), .val (.int al), .val (.ref b2), .unset, .unset, .unset, .unset, .unset, .unset, .unset, .unset, .unset] [(.int (8 : Int32)), (.int sh), (.ref b2)])) _
      refine XS.iand X10.here hx rfl (hb hby at_40) rfl ?_
      exact k)
  have ac14 : ∀ t, Steps p.tables e below (T10.setTop (mkF m 49 #[.val (.int sh), .val (.int cA), .val (.int cB), .val (.int cC), .val (.int t1), .val (.int t2), .val (.int al), .val (.ref b2), .unset, .unset, .unset, .unset, .unset, .unset, .unset, .unset, .unset] [(.int (own_flag (sh &&& (8 : Int32)))), (.ref b2)])) t → Steps p.tables e below (s₁.setTop (entryFrame m #[(.int sh), (.int cA), (.int cB), (.int cC), (.int t1), (.int t2)] maxLocals)) t := fun t k => ac13 t (by
      by_cases hm : (sh &&& (8 : Int32)) = (0 : Int32)
      ·
        show Steps p.tables e below (T10.setTop (mkF m 41 #[.val (.int sh), .val (.int cA), .val (.int cB), .val (.int cC), .val (.int t1), .val (.int t2), .val (.int al), .val (.ref b2), .unset, .unset, .unset, .unset, .unset, .unset, .unset, .unset, .unset] [(.int (sh &&& (8 : Int32))), (.ref b2)])) _
        refine XS.ifYes X10.here hx rfl (pc0 := 41) (pc' := 48) rfl (hb hby at_41) rfl ((if0 _ _).trans (teq hm).1) (by decide) (by decide) ?_
        show Steps p.tables e below (T10.setTop (mkF m 48 #[.val (.int sh), .val (.int cA), .val (.int cB), .val (.int cC), .val (.int t1), .val (.int t2), .val (.int al), .val (.ref b2), .unset, .unset, .unset, .unset, .unset, .unset, .unset, .unset, .unset] [(.ref b2)])) _
        refine XS.iconst X10.here hx rfl (hb hby at_48) ?_
        rw [own_flag_0 hm] at k; exact k
      ·
        show Steps p.tables e below (T10.setTop (mkF m 41 #[.val (.int sh), .val (.int cA), .val (.int cB), .val (.int cC), .val (.int t1), .val (.int t2), .val (.int al), .val (.ref b2), .unset, .unset, .unset, .unset, .unset, .unset, .unset, .unset, .unset] [(.int (sh &&& (8 : Int32))), (.ref b2)])) _
        refine XS.ifNo X10.here hx rfl (hb hby at_41) rfl ((if0 _ _).trans (feq hm).1) ?_
        show Steps p.tables e below (T10.setTop (mkF m 44 #[.val (.int sh), .val (.int cA), .val (.int cB), .val (.int cC), .val (.int t1), .val (.int t2), .val (.int al), .val (.ref b2), .unset, .unset, .unset, .unset, .unset, .unset, .unset, .unset, .unset] [(.ref b2)])) _
        refine XS.iconst X10.here hx rfl (hb hby at_44) ?_
        show Steps p.tables e below (T10.setTop (mkF m 45 #[.val (.int sh), .val (.int cA), .val (.int cB), .val (.int cC), .val (.int t1), .val (.int t2), .val (.int al), .val (.ref b2), .unset, .unset, .unset, .unset, .unset, .unset, .unset, .unset, .unset] [(.int (1 : Int32)), (.ref b2)])) _
        refine XS.goto X10.here hx rfl (pc0 := 45) (pc' := 49) rfl (hb hby at_45) (by decide) (by decide) ?_
        rw [own_flag_1 hm] at k; exact k)
  obtain ⟨cq15, kq15, q15a, q15b, q15c⟩ := isOf hZ rfl HB10.1
  obtain ⟨_, _, ⟨T15, L15, k15, n15⟩, -, X15, ⟨Lc15, hQ15, l15, y15, z15⟩, st15⟩ := X10.virtualBack hx (y := (⟨"com/example/boxwise/boxwise/Dfa$Builder", "addState", "(Z)I"⟩ : MethodName)) (z := (⟨"com/example/boxwise/boxwise/Dfa$Builder", "addState", "(Z)I"⟩ : MethodName)) hown (mvT hZ (hw _ (List.mem_of_getElem? (i := 17) rfl))) (mvT hZ (hw _ (List.mem_of_getElem? (i := 18) rfl))) (notFace_of_selects (args := #[]) (mvT hZ (hw _ (List.mem_of_getElem? (i := 20) rfl)))) (mvT hZ (hw _ (List.mem_of_getElem? (i := 20) rfl))) (mvT hZ (hw _ (List.mem_of_getElem? (i := 19) rfl))) (by decide) (backOf (W := 0) (rm3p l Z a0 hw [] b2 (own_flag (sh &&& (8 : Int32))) _ _ _ _ _ _ _ 1 T10.heap n0 Z10 HB10 (by decide) (by decide) g_b2) hZ (hw _ (List.mem_of_getElem? (i := 21) rfl)) (hw _ (List.mem_of_getElem? (i := 2) rfl)) (by decide) (by decide)) q15a q15c (g := (mkF m 49 #[.val (.int sh), .val (.int cA), .val (.int cB), .val (.int cC), .val (.int t1), .val (.int t2), .val (.int al), .val (.ref b2), .unset, .unset, .unset, .unset, .unset, .unset, .unset, .unset, .unset] [(.int (own_flag (sh &&& (8 : Int32)))), (.ref b2)])) rfl (by rw [hml]; rfl) (Steps.refl _) (argsL := [(.int (own_flag (sh &&& (8 : Int32))))]) (rest := []) (lenOf pd_2 rfl) rfl (by show 2 * 0 + _ ≤ _; exact Nat.le_of_eq rfl) (hb hby at_49) (fun _ _ => ⟨rfl, rfl, (by decide : 5 + 0 ≤ _), (by decide : 148 + 0 ≤ _)⟩)
  dsimp only [Pt.U, Pt.locs, Pt.cells, Pt.slots] at X15 l15 y15 z15 st15 hQ15
  subst l15 y15 z15
  obtain ⟨fA15, rfl, N15q, K15q, HB15⟩ := hQ15
  have N15 := Fr.app N10 N15q
  have Ef16 := HB10.1.keep K15q
  have Z15 : n0 ≤ T15.heap.size := Nat.le_trans Z10 K15q.1
  have ac17 : ∀ t, Steps p.tables e below (T15.setTop (mkF m 52 #[.val (.int sh), .val (.int cA), .val (.int cB), .val (.int cC), .val (.int t1), .val (.int t2), .val (.int al), .val (.ref b2), .unset, .unset, .unset, .unset, .unset, .unset, .unset, .unset, .unset] [(.int ((0 : Int32) + (1 : Int32)))])) t → Steps p.tables e below (s₁.setTop (entryFrame m #[(.int sh), (.int cA), (.int cB), (.int cC), (.int t1), (.int t2)] maxLocals)) t := fun t k => ac14 t (st15.trans k)
  have ac18 : ∀ t, Steps p.tables e below (T15.setTop (mkF m 59 #[.val (.int sh), .val (.int cA), .val (.int cB), .val (.int cC), .val (.int t1), .val (.int t2), .val (.int al), .val (.ref b2), .unset, .unset, .unset, .unset, .unset, .unset, .unset, .unset, .unset] [(.int (sh &&& (16 : Int32))), (.ref b2)])) t → Steps p.tables e below (s₁.setTop (entryFrame m #[(.int sh), (.int cA), (.int cB), (.int cC), (.int t1), (.int t2)] maxLocals)) t := fun t k => ac17 t (by
      show Steps p.tables e below (T15.setTop (mkF m 52 #[.val (.int sh), .val (.int cA), .val (.int cB), .val (.int cC), .val (.int t1), .val (.int t2), .val (.int al), .val (.ref b2), .unset, .unset, .unset, .unset, .unset, .unset, .unset, .unset, .unset] [(.int ((0 : Int32) + (1 : Int32)))])) _
      refine XS.pop X15.here hx rfl (hb hby at_52) rfl rfl ?_
      show Steps p.tables e below (T15.setTop (mkF m 53 #[.val (.int sh), .val (.int cA), .val (.int cB), .val (.int cC), .val (.int t1), .val (.int t2), .val (.int al), .val (.ref b2), .unset, .unset, .unset, .unset, .unset, .unset, .unset, .unset, .unset] [])) _
      refine XS.aload X15.here hx rfl (hb hby at_53) rfl rfl ?_
      show Steps p.tables e below (T15.setTop (mkF m 55 #[.val (.int sh), .val (.int cA), .val (.int cB), .val (.int cC), .val (.int t1), .val (.int t2), .val (.int al), .val (.ref b2), .unset, .unset, .unset, .unset, .unset, .unset, .unset, .unset, .unset] [(.ref b2)])) _
      refine XS.iloadN X15.here hx rfl (hb hby at_55) rfl ?_
      show Steps p.tables e below (T15.setTop (mkF m 56 #[.val (.int sh), .val (.int cA), .val (.int cB), .val (.int cC), .val (.int t1), .val (.int t2), .val (.int al), .val (.ref b2), .unset, .unset, .unset, .unset, .unset, .unset, .unset, .unset, .unset] [(.int sh), (.ref b2)])) _
      refine XS.bipush X15.here hx rfl (hb hby at_56) ?_
      show Steps p.tables e below (T15.setTop (mkF m 58 #[.val (.int sh), .val (.int cA), .val (.int cB), .val (.int cC), .val (.int t1), .val (.int t2), .val (.int al), .val (.ref b2), .unset, .unset, .unset, .unset, .unset, .unset, .unset, .unset, .unset] [(.int (16 : Int32)), (.int sh), (.ref b2)])) _
      refine XS.iand X15.here hx rfl (hb hby at_58) rfl ?_
      exact k)
  have ac19 : ∀ t, Steps p.tables e below (T15.setTop (mkF m 67 #[.val (.int sh), .val (.int cA), .val (.int cB), .val (.int cC), .val (.int t1), .val (.int t2), .val (.int al), .val (.ref b2), .unset, .unset, .unset, .unset, .unset, .unset, .unset, .unset, .unset] [(.int (own_flag (sh &&& (16 : Int32)))), (.ref b2)])) t → Steps p.tables e below (s₁.setTop (entryFrame m #[(.int sh), (.int cA), (.int cB), (.int cC), (.int t1), (.int t2)] maxLocals)) t := fun t k => ac18 t (by
      by_cases hm : (sh &&& (16 : Int32)) = (0 : Int32)
      ·
        show Steps p.tables e below (T15.setTop (mkF m 59 #[.val (.int sh), .val (.int cA), .val (.int cB), .val (.int cC), .val (.int t1), .val (.int t2), .val (.int al), .val (.ref b2), .unset, .unset, .unset, .unset, .unset, .unset, .unset, .unset, .unset] [(.int (sh &&& (16 : Int32))), (.ref b2)])) _
        refine XS.ifYes X15.here hx rfl (pc0 := 59) (pc' := 66) rfl (hb hby at_59) rfl ((if0 _ _).trans (teq hm).1) (by decide) (by decide) ?_
        show Steps p.tables e below (T15.setTop (mkF m 66 #[.val (.int sh), .val (.int cA), .val (.int cB), .val (.int cC), .val (.int t1), .val (.int t2), .val (.int al), .val (.ref b2), .unset, .unset, .unset, .unset, .unset, .unset, .unset, .unset, .unset] [(.ref b2)])) _
        refine XS.iconst X15.here hx rfl (hb hby at_66) ?_
        rw [own_flag_0 hm] at k; exact k
      ·
        show Steps p.tables e below (T15.setTop (mkF m 59 #[.val (.int sh), .val (.int cA), .val (.int cB), .val (.int cC), .val (.int t1), .val (.int t2), .val (.int al), .val (.ref b2), .unset, .unset, .unset, .unset, .unset, .unset, .unset, .unset, .unset] [(.int (sh &&& (16 : Int32))), (.ref b2)])) _
        refine XS.ifNo X15.here hx rfl (hb hby at_59) rfl ((if0 _ _).trans (feq hm).1) ?_
        show Steps p.tables e below (T15.setTop (mkF m 62 #[.val (.int sh), .val (.int cA), .val (.int cB), .val (.int cC), .val (.int t1), .val (.int t2), .val (.int al), .val (.ref b2), .unset, .unset, .unset, .unset, .unset, .unset, .unset, .unset, .unset] [(.ref b2)])) _
        refine XS.iconst X15.here hx rfl (hb hby at_62) ?_
        show Steps p.tables e below (T15.setTop (mkF m 63 #[.val (.int sh), .val (.int cA), .val (.int cB), .val (.int cC), .val (.int t1), .val (.int t2), .val (.int al), .val (.ref b2), .unset, .unset, .unset, .unset, .unset, .unset, .unset, .unset, .unset] [(.int (1 : Int32)), (.ref b2)])) _
        refine XS.goto X15.here hx rfl (pc0 := 63) (pc' := 67) rfl (hb hby at_63) (by decide) (by decide) ?_
        rw [own_flag_1 hm] at k; exact k)
  obtain ⟨cq20, kq20, q20a, q20b, q20c⟩ := isOf hZ rfl HB15.1
  obtain ⟨_, _, ⟨T20, L20, k20, n20⟩, -, X20, ⟨Lc20, hQ20, l20, y20, z20⟩, st20⟩ := X15.virtualBack hx (y := (⟨"com/example/boxwise/boxwise/Dfa$Builder", "addState", "(Z)I"⟩ : MethodName)) (z := (⟨"com/example/boxwise/boxwise/Dfa$Builder", "addState", "(Z)I"⟩ : MethodName)) hown (mvT hZ (hw _ (List.mem_of_getElem? (i := 17) rfl))) (mvT hZ (hw _ (List.mem_of_getElem? (i := 18) rfl))) (notFace_of_selects (args := #[]) (mvT hZ (hw _ (List.mem_of_getElem? (i := 20) rfl)))) (mvT hZ (hw _ (List.mem_of_getElem? (i := 20) rfl))) (mvT hZ (hw _ (List.mem_of_getElem? (i := 19) rfl))) (by decide) (backOf (W := 0) (rm3p l Z a0 hw [] b2 (own_flag (sh &&& (16 : Int32))) _ _ _ _ _ _ _ 2 T15.heap n0 Z15 HB15 (by decide) (by decide) g_b2) hZ (hw _ (List.mem_of_getElem? (i := 21) rfl)) (hw _ (List.mem_of_getElem? (i := 2) rfl)) (by decide) (by decide)) q20a q20c (g := (mkF m 67 #[.val (.int sh), .val (.int cA), .val (.int cB), .val (.int cC), .val (.int t1), .val (.int t2), .val (.int al), .val (.ref b2), .unset, .unset, .unset, .unset, .unset, .unset, .unset, .unset, .unset] [(.int (own_flag (sh &&& (16 : Int32)))), (.ref b2)])) rfl (by rw [hml]; rfl) (Steps.refl _) (argsL := [(.int (own_flag (sh &&& (16 : Int32))))]) (rest := []) (lenOf pd_2 rfl) rfl (by show 2 * 0 + _ ≤ _; exact Nat.le_of_eq rfl) (hb hby at_67) (fun _ _ => ⟨rfl, rfl, (by decide : 5 + 0 ≤ _), (by decide : 148 + 0 ≤ _)⟩)
  dsimp only [Pt.U, Pt.locs, Pt.cells, Pt.slots] at X20 l20 y20 z20 st20 hQ20
  subst l20 y20 z20
  obtain ⟨fA20, rfl, N20q, K20q, HB20⟩ := hQ20
  have N20 := Fr.app N15 N20q
  have Ef21 := HB15.1.keep K20q
  have Z20 : n0 ≤ T20.heap.size := Nat.le_trans Z15 K20q.1
  have ac22 : ∀ t, Steps p.tables e below (T20.setTop (mkF m 70 #[.val (.int sh), .val (.int cA), .val (.int cB), .val (.int cC), .val (.int t1), .val (.int t2), .val (.int al), .val (.ref b2), .unset, .unset, .unset, .unset, .unset, .unset, .unset, .unset, .unset] [(.int (((0 : Int32) + (1 : Int32)) + (1 : Int32)))])) t → Steps p.tables e below (s₁.setTop (entryFrame m #[(.int sh), (.int cA), (.int cB), (.int cC), (.int t1), (.int t2)] maxLocals)) t := fun t k => ac19 t (st20.trans k)
  obtain ⟨sn1, hs13, hs1⟩ := own_s3 (p := cA) (m := 2147483647) (by decide)
  have ac23 : ∀ t, Steps p.tables e below (T20.setTop (mkF m 79 #[.val (.int sh), .val (.int cA), .val (.int cB), .val (.int cC), .val (.int t1), .val (.int t2), .val (.int al), .val (.ref b2), .val (.int ((cA &&& (2147483647 : Int32)) % (3 : Int32))), .unset, .unset, .unset, .unset, .unset, .unset, .unset, .unset] [])) t → Steps p.tables e below (s₁.setTop (entryFrame m #[(.int sh), (.int cA), (.int cB), (.int cC), (.int t1), (.int t2)] maxLocals)) t := fun t k => ac22 t (by
      show Steps p.tables e below (T20.setTop (mkF m 70 #[.val (.int sh), .val (.int cA), .val (.int cB), .val (.int cC), .val (.int t1), .val (.int t2), .val (.int al), .val (.ref b2), .unset, .unset, .unset, .unset, .unset, .unset, .unset, .unset, .unset] [(.int (((0 : Int32) + (1 : Int32)) + (1 : Int32)))])) _
      refine XS.pop X20.here hx rfl (hb hby at_70) rfl rfl ?_
      show Steps p.tables e below (T20.setTop (mkF m 71 #[.val (.int sh), .val (.int cA), .val (.int cB), .val (.int cC), .val (.int t1), .val (.int t2), .val (.int al), .val (.ref b2), .unset, .unset, .unset, .unset, .unset, .unset, .unset, .unset, .unset] [])) _
      refine XS.iloadN X20.here hx rfl (hb hby at_71) rfl ?_
      show Steps p.tables e below (T20.setTop (mkF m 72 #[.val (.int sh), .val (.int cA), .val (.int cB), .val (.int cC), .val (.int t1), .val (.int t2), .val (.int al), .val (.ref b2), .unset, .unset, .unset, .unset, .unset, .unset, .unset, .unset, .unset] [(.int cA)])) _
      refine X20.ldcInt hx hown (mvT hZ (hw _ (List.mem_of_getElem? (i := 48) rfl))) (g := (mkF m 72 #[.val (.int sh), .val (.int cA), .val (.int cB), .val (.int cC), .val (.int t1), .val (.int t2), .val (.int al), .val (.ref b2), .unset, .unset, .unset, .unset, .unset, .unset, .unset, .unset, .unset] [(.int cA)])) rfl (hb hby at_72) _ ?_
      show Steps p.tables e below (T20.setTop (mkF m 74 #[.val (.int sh), .val (.int cA), .val (.int cB), .val (.int cC), .val (.int t1), .val (.int t2), .val (.int al), .val (.ref b2), .unset, .unset, .unset, .unset, .unset, .unset, .unset, .unset, .unset] [(.int (2147483647 : Int32)), (.int cA)])) _
      refine XS.iand X20.here hx rfl (hb hby at_74) rfl ?_
      show Steps p.tables e below (T20.setTop (mkF m 75 #[.val (.int sh), .val (.int cA), .val (.int cB), .val (.int cC), .val (.int t1), .val (.int t2), .val (.int al), .val (.ref b2), .unset, .unset, .unset, .unset, .unset, .unset, .unset, .unset, .unset] [(.int (cA &&& (2147483647 : Int32)))])) _
      refine XS.iconst X20.here hx rfl (hb hby at_75) ?_
      show Steps p.tables e below (T20.setTop (mkF m 76 #[.val (.int sh), .val (.int cA), .val (.int cB), .val (.int cC), .val (.int t1), .val (.int t2), .val (.int al), .val (.ref b2), .unset, .unset, .unset, .unset, .unset, .unset, .unset, .unset, .unset] [(.int (3 : Int32)), (.int (cA &&& (2147483647 : Int32)))])) _
      refine iremM X20 hx rfl (hb hby at_76) rfl (by decide) ?_
      show Steps p.tables e below (T20.setTop (mkF m 77 #[.val (.int sh), .val (.int cA), .val (.int cB), .val (.int cC), .val (.int t1), .val (.int t2), .val (.int al), .val (.ref b2), .unset, .unset, .unset, .unset, .unset, .unset, .unset, .unset, .unset] [(.int ((cA &&& (2147483647 : Int32)) % (3 : Int32)))])) _
      refine XS.istore X20.here hx rfl (hb hby at_77) rfl (l' := #[.val (.int sh), .val (.int cA), .val (.int cB), .val (.int cC), .val (.int t1), .val (.int t2), .val (.int al), .val (.ref b2), .val (.int ((cA &&& (2147483647 : Int32)) % (3 : Int32))), .unset, .unset, .unset, .unset, .unset, .unset, .unset, .unset]) rfl ?_
      exact k)
  obtain ⟨s1, e_s1⟩ : ∃ z : Int32, z = ((cA &&& (2147483647 : Int32)) % (3 : Int32)) := ⟨_, rfl⟩
  rw [← e_s1] at ac23
  rw [← e_s1] at hs1
  obtain ⟨ln1, hl1a, hl1⟩ := own_l (own_lo cA) hal h1a
  have ac24 : ∀ t, Steps p.tables e below (T20.setTop (mkF m 88 #[.val (.int sh), .val (.int cA), .val (.int cB), .val (.int cC), .val (.int t1), .val (.int t2), .val (.int al), .val (.ref b2), .val (.int s1), .val (.int (((cA.toUInt32 >>> ((16 : Int32) &&& 31).toUInt32).toInt32) % al)), .unset, .unset, .unset, .unset, .unset, .unset, .unset] [])) t → Steps p.tables e below (s₁.setTop (entryFrame m #[(.int sh), (.int cA), (.int cB), (.int cC), (.int t1), (.int t2)] maxLocals)) t := fun t k => ac23 t (by
      show Steps p.tables e below (T20.setTop (mkF m 79 #[.val (.int sh), .val (.int cA), .val (.int cB), .val (.int cC), .val (.int t1), .val (.int t2), .val (.int al), .val (.ref b2), .val (.int s1), .unset, .unset, .unset, .unset, .unset, .unset, .unset, .unset] [])) _
      refine XS.iloadN X20.here hx rfl (hb hby at_79) rfl ?_
      show Steps p.tables e below (T20.setTop (mkF m 80 #[.val (.int sh), .val (.int cA), .val (.int cB), .val (.int cC), .val (.int t1), .val (.int t2), .val (.int al), .val (.ref b2), .val (.int s1), .unset, .unset, .unset, .unset, .unset, .unset, .unset, .unset] [(.int cA)])) _
      refine XS.bipush X20.here hx rfl (hb hby at_80) ?_
      show Steps p.tables e below (T20.setTop (mkF m 82 #[.val (.int sh), .val (.int cA), .val (.int cB), .val (.int cC), .val (.int t1), .val (.int t2), .val (.int al), .val (.ref b2), .val (.int s1), .unset, .unset, .unset, .unset, .unset, .unset, .unset, .unset] [(.int (16 : Int32)), (.int cA)])) _
      refine XS.iushr X20.here hx rfl (hb hby at_82) rfl ?_
      show Steps p.tables e below (T20.setTop (mkF m 83 #[.val (.int sh), .val (.int cA), .val (.int cB), .val (.int cC), .val (.int t1), .val (.int t2), .val (.int al), .val (.ref b2), .val (.int s1), .unset, .unset, .unset, .unset, .unset, .unset, .unset, .unset] [(.int ((cA.toUInt32 >>> ((16 : Int32) &&& 31).toUInt32).toInt32))])) _
      refine XS.iload X20.here hx rfl (hb hby at_83) rfl ?_
      show Steps p.tables e below (T20.setTop (mkF m 85 #[.val (.int sh), .val (.int cA), .val (.int cB), .val (.int cC), .val (.int t1), .val (.int t2), .val (.int al), .val (.ref b2), .val (.int s1), .unset, .unset, .unset, .unset, .unset, .unset, .unset, .unset] [(.int al), (.int ((cA.toUInt32 >>> ((16 : Int32) &&& 31).toUInt32).toInt32))])) _
      refine iremM X20 hx rfl (hb hby at_85) rfl (own_ne0 hal h1a) ?_
      show Steps p.tables e below (T20.setTop (mkF m 86 #[.val (.int sh), .val (.int cA), .val (.int cB), .val (.int cC), .val (.int t1), .val (.int t2), .val (.int al), .val (.ref b2), .val (.int s1), .unset, .unset, .unset, .unset, .unset, .unset, .unset, .unset] [(.int (((cA.toUInt32 >>> ((16 : Int32) &&& 31).toUInt32).toInt32) % al))])) _
      refine XS.istore X20.here hx rfl (hb hby at_86) rfl (l' := #[.val (.int sh), .val (.int cA), .val (.int cB), .val (.int cC), .val (.int t1), .val (.int t2), .val (.int al), .val (.ref b2), .val (.int s1), .val (.int (((cA.toUInt32 >>> ((16 : Int32) &&& 31).toUInt32).toInt32) % al)), .unset, .unset, .unset, .unset, .unset, .unset, .unset]) rfl ?_
      exact k)
  obtain ⟨l1, e_l1⟩ : ∃ z : Int32, z = (((cA.toUInt32 >>> ((16 : Int32) &&& 31).toUInt32).toInt32) % al) := ⟨_, rfl⟩
  rw [← e_l1] at ac24
  rw [← e_l1] at hl1
  obtain ⟨sn2, hs23, hs2⟩ := own_s3 (p := cB) (m := 2147483647) (by decide)
  have ac25 : ∀ t, Steps p.tables e below (T20.setTop (mkF m 96 #[.val (.int sh), .val (.int cA), .val (.int cB), .val (.int cC), .val (.int t1), .val (.int t2), .val (.int al), .val (.ref b2), .val (.int s1), .val (.int l1), .val (.int ((cB &&& (2147483647 : Int32)) % (3 : Int32))), .unset, .unset, .unset, .unset, .unset, .unset] [])) t → Steps p.tables e below (s₁.setTop (entryFrame m #[(.int sh), (.int cA), (.int cB), (.int cC), (.int t1), (.int t2)] maxLocals)) t := fun t k => ac24 t (by
      show Steps p.tables e below (T20.setTop (mkF m 88 #[.val (.int sh), .val (.int cA), .val (.int cB), .val (.int cC), .val (.int t1), .val (.int t2), .val (.int al), .val (.ref b2), .val (.int s1), .val (.int l1), .unset, .unset, .unset, .unset, .unset, .unset, .unset] [])) _
      refine XS.iloadN X20.here hx rfl (hb hby at_88) rfl ?_
      show Steps p.tables e below (T20.setTop (mkF m 89 #[.val (.int sh), .val (.int cA), .val (.int cB), .val (.int cC), .val (.int t1), .val (.int t2), .val (.int al), .val (.ref b2), .val (.int s1), .val (.int l1), .unset, .unset, .unset, .unset, .unset, .unset, .unset] [(.int cB)])) _
      refine X20.ldcInt hx hown (mvT hZ (hw _ (List.mem_of_getElem? (i := 48) rfl))) (g := (mkF m 89 #[.val (.int sh), .val (.int cA), .val (.int cB), .val (.int cC), .val (.int t1), .val (.int t2), .val (.int al), .val (.ref b2), .val (.int s1), .val (.int l1), .unset, .unset, .unset, .unset, .unset, .unset, .unset] [(.int cB)])) rfl (hb hby at_89) _ ?_
      show Steps p.tables e below (T20.setTop (mkF m 91 #[.val (.int sh), .val (.int cA), .val (.int cB), .val (.int cC), .val (.int t1), .val (.int t2), .val (.int al), .val (.ref b2), .val (.int s1), .val (.int l1), .unset, .unset, .unset, .unset, .unset, .unset, .unset] [(.int (2147483647 : Int32)), (.int cB)])) _
      refine XS.iand X20.here hx rfl (hb hby at_91) rfl ?_
      show Steps p.tables e below (T20.setTop (mkF m 92 #[.val (.int sh), .val (.int cA), .val (.int cB), .val (.int cC), .val (.int t1), .val (.int t2), .val (.int al), .val (.ref b2), .val (.int s1), .val (.int l1), .unset, .unset, .unset, .unset, .unset, .unset, .unset] [(.int (cB &&& (2147483647 : Int32)))])) _
      refine XS.iconst X20.here hx rfl (hb hby at_92) ?_
      show Steps p.tables e below (T20.setTop (mkF m 93 #[.val (.int sh), .val (.int cA), .val (.int cB), .val (.int cC), .val (.int t1), .val (.int t2), .val (.int al), .val (.ref b2), .val (.int s1), .val (.int l1), .unset, .unset, .unset, .unset, .unset, .unset, .unset] [(.int (3 : Int32)), (.int (cB &&& (2147483647 : Int32)))])) _
      refine iremM X20 hx rfl (hb hby at_93) rfl (by decide) ?_
      show Steps p.tables e below (T20.setTop (mkF m 94 #[.val (.int sh), .val (.int cA), .val (.int cB), .val (.int cC), .val (.int t1), .val (.int t2), .val (.int al), .val (.ref b2), .val (.int s1), .val (.int l1), .unset, .unset, .unset, .unset, .unset, .unset, .unset] [(.int ((cB &&& (2147483647 : Int32)) % (3 : Int32)))])) _
      refine XS.istore X20.here hx rfl (hb hby at_94) rfl (l' := #[.val (.int sh), .val (.int cA), .val (.int cB), .val (.int cC), .val (.int t1), .val (.int t2), .val (.int al), .val (.ref b2), .val (.int s1), .val (.int l1), .val (.int ((cB &&& (2147483647 : Int32)) % (3 : Int32))), .unset, .unset, .unset, .unset, .unset, .unset]) rfl ?_
      exact k)
  obtain ⟨s2, e_s2⟩ : ∃ z : Int32, z = ((cB &&& (2147483647 : Int32)) % (3 : Int32)) := ⟨_, rfl⟩
  rw [← e_s2] at ac25
  rw [← e_s2] at hs2
  obtain ⟨ln2, hl2a, hl2⟩ := own_l (own_lo cB) hal h1a
  have ac26 : ∀ t, Steps p.tables e below (T20.setTop (mkF m 105 #[.val (.int sh), .val (.int cA), .val (.int cB), .val (.int cC), .val (.int t1), .val (.int t2), .val (.int al), .val (.ref b2), .val (.int s1), .val (.int l1), .val (.int s2), .val (.int (((cB.toUInt32 >>> ((16 : Int32) &&& 31).toUInt32).toInt32) % al)), .unset, .unset, .unset, .unset, .unset] [])) t → Steps p.tables e below (s₁.setTop (entryFrame m #[(.int sh), (.int cA), (.int cB), (.int cC), (.int t1), (.int t2)] maxLocals)) t := fun t k => ac25 t (by
      show Steps p.tables e below (T20.setTop (mkF m 96 #[.val (.int sh), .val (.int cA), .val (.int cB), .val (.int cC), .val (.int t1), .val (.int t2), .val (.int al), .val (.ref b2), .val (.int s1), .val (.int l1), .val (.int s2), .unset, .unset, .unset, .unset, .unset, .unset] [])) _
      refine XS.iloadN X20.here hx rfl (hb hby at_96) rfl ?_
      show Steps p.tables e below (T20.setTop (mkF m 97 #[.val (.int sh), .val (.int cA), .val (.int cB), .val (.int cC), .val (.int t1), .val (.int t2), .val (.int al), .val (.ref b2), .val (.int s1), .val (.int l1), .val (.int s2), .unset, .unset, .unset, .unset, .unset, .unset] [(.int cB)])) _
      refine XS.bipush X20.here hx rfl (hb hby at_97) ?_
      show Steps p.tables e below (T20.setTop (mkF m 99 #[.val (.int sh), .val (.int cA), .val (.int cB), .val (.int cC), .val (.int t1), .val (.int t2), .val (.int al), .val (.ref b2), .val (.int s1), .val (.int l1), .val (.int s2), .unset, .unset, .unset, .unset, .unset, .unset] [(.int (16 : Int32)), (.int cB)])) _
      refine XS.iushr X20.here hx rfl (hb hby at_99) rfl ?_
      show Steps p.tables e below (T20.setTop (mkF m 100 #[.val (.int sh), .val (.int cA), .val (.int cB), .val (.int cC), .val (.int t1), .val (.int t2), .val (.int al), .val (.ref b2), .val (.int s1), .val (.int l1), .val (.int s2), .unset, .unset, .unset, .unset, .unset, .unset] [(.int ((cB.toUInt32 >>> ((16 : Int32) &&& 31).toUInt32).toInt32))])) _
      refine XS.iload X20.here hx rfl (hb hby at_100) rfl ?_
      show Steps p.tables e below (T20.setTop (mkF m 102 #[.val (.int sh), .val (.int cA), .val (.int cB), .val (.int cC), .val (.int t1), .val (.int t2), .val (.int al), .val (.ref b2), .val (.int s1), .val (.int l1), .val (.int s2), .unset, .unset, .unset, .unset, .unset, .unset] [(.int al), (.int ((cB.toUInt32 >>> ((16 : Int32) &&& 31).toUInt32).toInt32))])) _
      refine iremM X20 hx rfl (hb hby at_102) rfl (own_ne0 hal h1a) ?_
      show Steps p.tables e below (T20.setTop (mkF m 103 #[.val (.int sh), .val (.int cA), .val (.int cB), .val (.int cC), .val (.int t1), .val (.int t2), .val (.int al), .val (.ref b2), .val (.int s1), .val (.int l1), .val (.int s2), .unset, .unset, .unset, .unset, .unset, .unset] [(.int (((cB.toUInt32 >>> ((16 : Int32) &&& 31).toUInt32).toInt32) % al))])) _
      refine XS.istore X20.here hx rfl (hb hby at_103) rfl (l' := #[.val (.int sh), .val (.int cA), .val (.int cB), .val (.int cC), .val (.int t1), .val (.int t2), .val (.int al), .val (.ref b2), .val (.int s1), .val (.int l1), .val (.int s2), .val (.int (((cB.toUInt32 >>> ((16 : Int32) &&& 31).toUInt32).toInt32) % al)), .unset, .unset, .unset, .unset, .unset]) rfl ?_
      exact k)
  obtain ⟨l2, e_l2⟩ : ∃ z : Int32, z = (((cB.toUInt32 >>> ((16 : Int32) &&& 31).toUInt32).toInt32) % al) := ⟨_, rfl⟩
  rw [← e_l2] at ac26
  rw [← e_l2] at hl2
  obtain ⟨sn3, hs33, hs3⟩ := own_s3 (p := cC) (m := 2147483647) (by decide)
  have ac27 : ∀ t, Steps p.tables e below (T20.setTop (mkF m 113 #[.val (.int sh), .val (.int cA), .val (.int cB), .val (.int cC), .val (.int t1), .val (.int t2), .val (.int al), .val (.ref b2), .val (.int s1), .val (.int l1), .val (.int s2), .val (.int l2), .val (.int ((cC &&& (2147483647 : Int32)) % (3 : Int32))), .unset, .unset, .unset, .unset] [])) t → Steps p.tables e below (s₁.setTop (entryFrame m #[(.int sh), (.int cA), (.int cB), (.int cC), (.int t1), (.int t2)] maxLocals)) t := fun t k => ac26 t (by
      show Steps p.tables e below (T20.setTop (mkF m 105 #[.val (.int sh), .val (.int cA), .val (.int cB), .val (.int cC), .val (.int t1), .val (.int t2), .val (.int al), .val (.ref b2), .val (.int s1), .val (.int l1), .val (.int s2), .val (.int l2), .unset, .unset, .unset, .unset, .unset] [])) _
      refine XS.iloadN X20.here hx rfl (hb hby at_105) rfl ?_
      show Steps p.tables e below (T20.setTop (mkF m 106 #[.val (.int sh), .val (.int cA), .val (.int cB), .val (.int cC), .val (.int t1), .val (.int t2), .val (.int al), .val (.ref b2), .val (.int s1), .val (.int l1), .val (.int s2), .val (.int l2), .unset, .unset, .unset, .unset, .unset] [(.int cC)])) _
      refine X20.ldcInt hx hown (mvT hZ (hw _ (List.mem_of_getElem? (i := 48) rfl))) (g := (mkF m 106 #[.val (.int sh), .val (.int cA), .val (.int cB), .val (.int cC), .val (.int t1), .val (.int t2), .val (.int al), .val (.ref b2), .val (.int s1), .val (.int l1), .val (.int s2), .val (.int l2), .unset, .unset, .unset, .unset, .unset] [(.int cC)])) rfl (hb hby at_106) _ ?_
      show Steps p.tables e below (T20.setTop (mkF m 108 #[.val (.int sh), .val (.int cA), .val (.int cB), .val (.int cC), .val (.int t1), .val (.int t2), .val (.int al), .val (.ref b2), .val (.int s1), .val (.int l1), .val (.int s2), .val (.int l2), .unset, .unset, .unset, .unset, .unset] [(.int (2147483647 : Int32)), (.int cC)])) _
      refine XS.iand X20.here hx rfl (hb hby at_108) rfl ?_
      show Steps p.tables e below (T20.setTop (mkF m 109 #[.val (.int sh), .val (.int cA), .val (.int cB), .val (.int cC), .val (.int t1), .val (.int t2), .val (.int al), .val (.ref b2), .val (.int s1), .val (.int l1), .val (.int s2), .val (.int l2), .unset, .unset, .unset, .unset, .unset] [(.int (cC &&& (2147483647 : Int32)))])) _
      refine XS.iconst X20.here hx rfl (hb hby at_109) ?_
      show Steps p.tables e below (T20.setTop (mkF m 110 #[.val (.int sh), .val (.int cA), .val (.int cB), .val (.int cC), .val (.int t1), .val (.int t2), .val (.int al), .val (.ref b2), .val (.int s1), .val (.int l1), .val (.int s2), .val (.int l2), .unset, .unset, .unset, .unset, .unset] [(.int (3 : Int32)), (.int (cC &&& (2147483647 : Int32)))])) _
      refine iremM X20 hx rfl (hb hby at_110) rfl (by decide) ?_
      show Steps p.tables e below (T20.setTop (mkF m 111 #[.val (.int sh), .val (.int cA), .val (.int cB), .val (.int cC), .val (.int t1), .val (.int t2), .val (.int al), .val (.ref b2), .val (.int s1), .val (.int l1), .val (.int s2), .val (.int l2), .unset, .unset, .unset, .unset, .unset] [(.int ((cC &&& (2147483647 : Int32)) % (3 : Int32)))])) _
      refine XS.istore X20.here hx rfl (hb hby at_111) rfl (l' := #[.val (.int sh), .val (.int cA), .val (.int cB), .val (.int cC), .val (.int t1), .val (.int t2), .val (.int al), .val (.ref b2), .val (.int s1), .val (.int l1), .val (.int s2), .val (.int l2), .val (.int ((cC &&& (2147483647 : Int32)) % (3 : Int32))), .unset, .unset, .unset, .unset]) rfl ?_
      exact k)
  obtain ⟨s3, e_s3⟩ : ∃ z : Int32, z = ((cC &&& (2147483647 : Int32)) % (3 : Int32)) := ⟨_, rfl⟩
  rw [← e_s3] at ac27
  rw [← e_s3] at hs3
  obtain ⟨ln3, hl3a, hl3⟩ := own_l (own_lo cC) hal h1a
  have ac28 : ∀ t, Steps p.tables e below (T20.setTop (mkF m 122 #[.val (.int sh), .val (.int cA), .val (.int cB), .val (.int cC), .val (.int t1), .val (.int t2), .val (.int al), .val (.ref b2), .val (.int s1), .val (.int l1), .val (.int s2), .val (.int l2), .val (.int s3), .val (.int (((cC.toUInt32 >>> ((16 : Int32) &&& 31).toUInt32).toInt32) % al)), .unset, .unset, .unset] [])) t → Steps p.tables e below (s₁.setTop (entryFrame m #[(.int sh), (.int cA), (.int cB), (.int cC), (.int t1), (.int t2)] maxLocals)) t := fun t k => ac27 t (by
      show Steps p.tables e below (T20.setTop (mkF m 113 #[.val (.int sh), .val (.int cA), .val (.int cB), .val (.int cC), .val (.int t1), .val (.int t2), .val (.int al), .val (.ref b2), .val (.int s1), .val (.int l1), .val (.int s2), .val (.int l2), .val (.int s3), .unset, .unset, .unset, .unset] [])) _
      refine XS.iloadN X20.here hx rfl (hb hby at_113) rfl ?_
      show Steps p.tables e below (T20.setTop (mkF m 114 #[.val (.int sh), .val (.int cA), .val (.int cB), .val (.int cC), .val (.int t1), .val (.int t2), .val (.int al), .val (.ref b2), .val (.int s1), .val (.int l1), .val (.int s2), .val (.int l2), .val (.int s3), .unset, .unset, .unset, .unset] [(.int cC)])) _
      refine XS.bipush X20.here hx rfl (hb hby at_114) ?_
      show Steps p.tables e below (T20.setTop (mkF m 116 #[.val (.int sh), .val (.int cA), .val (.int cB), .val (.int cC), .val (.int t1), .val (.int t2), .val (.int al), .val (.ref b2), .val (.int s1), .val (.int l1), .val (.int s2), .val (.int l2), .val (.int s3), .unset, .unset, .unset, .unset] [(.int (16 : Int32)), (.int cC)])) _
      refine XS.iushr X20.here hx rfl (hb hby at_116) rfl ?_
      show Steps p.tables e below (T20.setTop (mkF m 117 #[.val (.int sh), .val (.int cA), .val (.int cB), .val (.int cC), .val (.int t1), .val (.int t2), .val (.int al), .val (.ref b2), .val (.int s1), .val (.int l1), .val (.int s2), .val (.int l2), .val (.int s3), .unset, .unset, .unset, .unset] [(.int ((cC.toUInt32 >>> ((16 : Int32) &&& 31).toUInt32).toInt32))])) _
      refine XS.iload X20.here hx rfl (hb hby at_117) rfl ?_
      show Steps p.tables e below (T20.setTop (mkF m 119 #[.val (.int sh), .val (.int cA), .val (.int cB), .val (.int cC), .val (.int t1), .val (.int t2), .val (.int al), .val (.ref b2), .val (.int s1), .val (.int l1), .val (.int s2), .val (.int l2), .val (.int s3), .unset, .unset, .unset, .unset] [(.int al), (.int ((cC.toUInt32 >>> ((16 : Int32) &&& 31).toUInt32).toInt32))])) _
      refine iremM X20 hx rfl (hb hby at_119) rfl (own_ne0 hal h1a) ?_
      show Steps p.tables e below (T20.setTop (mkF m 120 #[.val (.int sh), .val (.int cA), .val (.int cB), .val (.int cC), .val (.int t1), .val (.int t2), .val (.int al), .val (.ref b2), .val (.int s1), .val (.int l1), .val (.int s2), .val (.int l2), .val (.int s3), .unset, .unset, .unset, .unset] [(.int (((cC.toUInt32 >>> ((16 : Int32) &&& 31).toUInt32).toInt32) % al))])) _
      refine XS.istore X20.here hx rfl (hb hby at_120) rfl (l' := #[.val (.int sh), .val (.int cA), .val (.int cB), .val (.int cC), .val (.int t1), .val (.int t2), .val (.int al), .val (.ref b2), .val (.int s1), .val (.int l1), .val (.int s2), .val (.int l2), .val (.int s3), .val (.int (((cC.toUInt32 >>> ((16 : Int32) &&& 31).toUInt32).toInt32) % al)), .unset, .unset, .unset]) rfl ?_
      exact k)
  obtain ⟨l3, e_l3⟩ : ∃ z : Int32, z = (((cC.toUInt32 >>> ((16 : Int32) &&& 31).toUInt32).toInt32) % al) := ⟨_, rfl⟩
  rw [← e_l3] at ac28
  rw [← e_l3] at hl3
  have ac29 : ∀ t, Steps p.tables e below (T20.setTop (mkF m 130 #[.val (.int sh), .val (.int cA), .val (.int cB), .val (.int cC), .val (.int t1), .val (.int t2), .val (.int al), .val (.ref b2), .val (.int s1), .val (.int l1), .val (.int s2), .val (.int l2), .val (.int s3), .val (.int l3), .unset, .unset, .unset] [(.int t1), (.int l1), (.int s1), (.ref b2)])) t → Steps p.tables e below (s₁.setTop (entryFrame m #[(.int sh), (.int cA), (.int cB), (.int cC), (.int t1), (.int t2)] maxLocals)) t := fun t k => ac28 t (by
      show Steps p.tables e below (T20.setTop (mkF m 122 #[.val (.int sh), .val (.int cA), .val (.int cB), .val (.int cC), .val (.int t1), .val (.int t2), .val (.int al), .val (.ref b2), .val (.int s1), .val (.int l1), .val (.int s2), .val (.int l2), .val (.int s3), .val (.int l3), .unset, .unset, .unset] [])) _
      refine XS.aload X20.here hx rfl (hb hby at_122) rfl rfl ?_
      show Steps p.tables e below (T20.setTop (mkF m 124 #[.val (.int sh), .val (.int cA), .val (.int cB), .val (.int cC), .val (.int t1), .val (.int t2), .val (.int al), .val (.ref b2), .val (.int s1), .val (.int l1), .val (.int s2), .val (.int l2), .val (.int s3), .val (.int l3), .unset, .unset, .unset] [(.ref b2)])) _
      refine XS.iload X20.here hx rfl (hb hby at_124) rfl ?_
      show Steps p.tables e below (T20.setTop (mkF m 126 #[.val (.int sh), .val (.int cA), .val (.int cB), .val (.int cC), .val (.int t1), .val (.int t2), .val (.int al), .val (.ref b2), .val (.int s1), .val (.int l1), .val (.int s2), .val (.int l2), .val (.int s3), .val (.int l3), .unset, .unset, .unset] [(.int s1), (.ref b2)])) _
      refine XS.iload X20.here hx rfl (hb hby at_126) rfl ?_
      show Steps p.tables e below (T20.setTop (mkF m 128 #[.val (.int sh), .val (.int cA), .val (.int cB), .val (.int cC), .val (.int t1), .val (.int t2), .val (.int al), .val (.ref b2), .val (.int s1), .val (.int l1), .val (.int s2), .val (.int l2), .val (.int s3), .val (.int l3), .unset, .unset, .unset] [(.int l1), (.int s1), (.ref b2)])) _
      refine XS.iload X20.here hx rfl (hb hby at_128) rfl ?_
      exact k)
  obtain ⟨cq30, kq30, q30a, q30b, q30c⟩ := isOf hZ rfl HB20.1
  obtain ⟨_, _, ⟨T30, L30, k30, n30⟩, -, X30, ⟨Lc30, hQ30, l30, y30, z30⟩, st30⟩ := X20.virtualBack hx (y := (⟨"com/example/boxwise/boxwise/Dfa$Builder", "setNext", "(III)V"⟩ : MethodName)) (z := (⟨"com/example/boxwise/boxwise/Dfa$Builder", "setNext", "(III)V"⟩ : MethodName)) hown (mvT hZ (hw _ (List.mem_of_getElem? (i := 49) rfl))) (mvT hZ (hw _ (List.mem_of_getElem? (i := 50) rfl))) (notFace_of_selects (args := #[]) (mvT hZ (hw _ (List.mem_of_getElem? (i := 52) rfl)))) (mvT hZ (hw _ (List.mem_of_getElem? (i := 52) rfl))) (mvT hZ (hw _ (List.mem_of_getElem? (i := 51) rfl))) (by decide) (backOf (W := 0) (rm10 l Z a0 hw [] b2 s1 l1 t1 _ _ _ _ _ _ _ _ (sn1 * an + ln1) T20.heap n0 Z20 HB20 (own_ix hs1 hal hl1 hs13 h8a hl1a).1 (own_ix hs1 hal hl1 hs13 h8a hl1a).2) hZ (hw _ (List.mem_of_getElem? (i := 53) rfl)) (hw _ (List.mem_of_getElem? (i := 2) rfl)) (by decide) (by decide)) q30a q30c (g := (mkF m 130 #[.val (.int sh), .val (.int cA), .val (.int cB), .val (.int cC), .val (.int t1), .val (.int t2), .val (.int al), .val (.ref b2), .val (.int s1), .val (.int l1), .val (.int s2), .val (.int l2), .val (.int s3), .val (.int l3), .unset, .unset, .unset] [(.int t1), (.int l1), (.int s1), (.ref b2)])) rfl (by rw [hml]; rfl) (Steps.refl _) (argsL := [(.int s1), (.int l1), (.int t1)]) (rest := []) (lenOf pd_8 rfl) rfl (by show 2 * 0 + _ ≤ _; exact Nat.le_of_eq rfl) (hb hby at_130) (fun _ _ => ⟨rfl, rfl, (by decide : 5 + 0 ≤ _), (by decide : 148 + 0 ≤ _)⟩)
  dsimp only [Pt.U, Pt.locs, Pt.cells, Pt.slots] at X30 l30 y30 z30 st30 hQ30
  subst l30 y30 z30
  obtain ⟨rfl, N30q, K30q, HB30⟩ := hQ30
  have N30 := Fr.app N20 N30q
  have Ef31 := HB20.1.keep K30q
  have Z30 : n0 ≤ T30.heap.size := Nat.le_trans Z20 K30q.1
  have ac32 : ∀ t, Steps p.tables e below (T30.setTop (mkF m 133 #[.val (.int sh), .val (.int cA), .val (.int cB), .val (.int cC), .val (.int t1), .val (.int t2), .val (.int al), .val (.ref b2), .val (.int s1), .val (.int l1), .val (.int s2), .val (.int l2), .val (.int s3), .val (.int l3), .unset, .unset, .unset] [])) t → Steps p.tables e below (s₁.setTop (entryFrame m #[(.int sh), (.int cA), (.int cB), (.int cC), (.int t1), (.int t2)] maxLocals)) t := fun t k => ac29 t (st30.trans k)
  have ac33 : ∀ t, Steps p.tables e below (T30.setTop (mkF m 141 #[.val (.int sh), .val (.int cA), .val (.int cB), .val (.int cC), .val (.int t1), .val (.int t2), .val (.int al), .val (.ref b2), .val (.int s1), .val (.int l1), .val (.int s2), .val (.int l2), .val (.int s3), .val (.int l3), .unset, .unset, .unset] [(.int t2), (.int l2), (.int s2), (.ref b2)])) t → Steps p.tables e below (s₁.setTop (entryFrame m #[(.int sh), (.int cA), (.int cB), (.int cC), (.int t1), (.int t2)] maxLocals)) t := fun t k => ac32 t (by
      show Steps p.tables e below (T30.setTop (mkF m 133 #[.val (.int sh), .val (.int cA), .val (.int cB), .val (.int cC), .val (.int t1), .val (.int t2), .val (.int al), .val (.ref b2), .val (.int s1), .val (.int l1), .val (.int s2), .val (.int l2), .val (.int s3), .val (.int l3), .unset, .unset, .unset] [])) _
      refine XS.aload X30.here hx rfl (hb hby at_133) rfl rfl ?_
      show Steps p.tables e below (T30.setTop (mkF m 135 #[.val (.int sh), .val (.int cA), .val (.int cB), .val (.int cC), .val (.int t1), .val (.int t2), .val (.int al), .val (.ref b2), .val (.int s1), .val (.int l1), .val (.int s2), .val (.int l2), .val (.int s3), .val (.int l3), .unset, .unset, .unset] [(.ref b2)])) _
      refine XS.iload X30.here hx rfl (hb hby at_135) rfl ?_
      show Steps p.tables e below (T30.setTop (mkF m 137 #[.val (.int sh), .val (.int cA), .val (.int cB), .val (.int cC), .val (.int t1), .val (.int t2), .val (.int al), .val (.ref b2), .val (.int s1), .val (.int l1), .val (.int s2), .val (.int l2), .val (.int s3), .val (.int l3), .unset, .unset, .unset] [(.int s2), (.ref b2)])) _
      refine XS.iload X30.here hx rfl (hb hby at_137) rfl ?_
      show Steps p.tables e below (T30.setTop (mkF m 139 #[.val (.int sh), .val (.int cA), .val (.int cB), .val (.int cC), .val (.int t1), .val (.int t2), .val (.int al), .val (.ref b2), .val (.int s1), .val (.int l1), .val (.int s2), .val (.int l2), .val (.int s3), .val (.int l3), .unset, .unset, .unset] [(.int l2), (.int s2), (.ref b2)])) _
      refine XS.iload X30.here hx rfl (hb hby at_139) rfl ?_
      exact k)
  obtain ⟨cq34, kq34, q34a, q34b, q34c⟩ := isOf hZ rfl HB30.1
  obtain ⟨_, _, ⟨T34, L34, k34, n34⟩, -, X34, ⟨Lc34, hQ34, l34, y34, z34⟩, st34⟩ := X30.virtualBack hx (y := (⟨"com/example/boxwise/boxwise/Dfa$Builder", "setNext", "(III)V"⟩ : MethodName)) (z := (⟨"com/example/boxwise/boxwise/Dfa$Builder", "setNext", "(III)V"⟩ : MethodName)) hown (mvT hZ (hw _ (List.mem_of_getElem? (i := 49) rfl))) (mvT hZ (hw _ (List.mem_of_getElem? (i := 50) rfl))) (notFace_of_selects (args := #[]) (mvT hZ (hw _ (List.mem_of_getElem? (i := 52) rfl)))) (mvT hZ (hw _ (List.mem_of_getElem? (i := 52) rfl))) (mvT hZ (hw _ (List.mem_of_getElem? (i := 51) rfl))) (by decide) (backOf (W := 0) (rm10 l Z a0 hw [] b2 s2 l2 t2 _ _ _ _ _ _ _ _ (sn2 * an + ln2) T30.heap n0 Z30 HB30 (own_ix hs2 hal hl2 hs23 h8a hl2a).1 (own_ix hs2 hal hl2 hs23 h8a hl2a).2) hZ (hw _ (List.mem_of_getElem? (i := 53) rfl)) (hw _ (List.mem_of_getElem? (i := 2) rfl)) (by decide) (by decide)) q34a q34c (g := (mkF m 141 #[.val (.int sh), .val (.int cA), .val (.int cB), .val (.int cC), .val (.int t1), .val (.int t2), .val (.int al), .val (.ref b2), .val (.int s1), .val (.int l1), .val (.int s2), .val (.int l2), .val (.int s3), .val (.int l3), .unset, .unset, .unset] [(.int t2), (.int l2), (.int s2), (.ref b2)])) rfl (by rw [hml]; rfl) (Steps.refl _) (argsL := [(.int s2), (.int l2), (.int t2)]) (rest := []) (lenOf pd_8 rfl) rfl (by show 2 * 0 + _ ≤ _; exact Nat.le_of_eq rfl) (hb hby at_141) (fun _ _ => ⟨rfl, rfl, (by decide : 5 + 0 ≤ _), (by decide : 148 + 0 ≤ _)⟩)
  dsimp only [Pt.U, Pt.locs, Pt.cells, Pt.slots] at X34 l34 y34 z34 st34 hQ34
  subst l34 y34 z34
  obtain ⟨rfl, N34q, K34q, HB34⟩ := hQ34
  have N34 := Fr.app N30 N34q
  have Ef35 := HB30.1.keep K34q
  have Z34 : n0 ≤ T34.heap.size := Nat.le_trans Z30 K34q.1
  have ac36 : ∀ t, Steps p.tables e below (T34.setTop (mkF m 144 #[.val (.int sh), .val (.int cA), .val (.int cB), .val (.int cC), .val (.int t1), .val (.int t2), .val (.int al), .val (.ref b2), .val (.int s1), .val (.int l1), .val (.int s2), .val (.int l2), .val (.int s3), .val (.int l3), .unset, .unset, .unset] [])) t → Steps p.tables e below (s₁.setTop (entryFrame m #[(.int sh), (.int cA), (.int cB), (.int cC), (.int t1), (.int t2)] maxLocals)) t := fun t k => ac33 t (st34.trans k)
  have ac37 : ∀ t, Steps p.tables e below (T34.setTop (mkF m 179 #[.val (.int sh), .val (.int cA), .val (.int cB), .val (.int cC), .val (.int t1), .val (.int t2), .val (.int al), .val (.ref b2), .val (.int s1), .val (.int l1), .val (.int s2), .val (.int l2), .val (.int s3), .val (.int l3), .val (.int (own_b s1 l1 s2 l2)), .val (.int (own_e1 s1 l1 s2 l2 t1 t2)), .unset] [])) t → Steps p.tables e below (s₁.setTop (entryFrame m #[(.int sh), (.int cA), (.int cB), (.int cC), (.int t1), (.int t2)] maxLocals)) t := fun t k => ac36 t (by
      show Steps p.tables e below (T34.setTop (mkF m 144 #[.val (.int sh), .val (.int cA), .val (.int cB), .val (.int cC), .val (.int t1), .val (.int t2), .val (.int al), .val (.ref b2), .val (.int s1), .val (.int l1), .val (.int s2), .val (.int l2), .val (.int s3), .val (.int l3), .unset, .unset, .unset] [])) _
      refine XS.iload X34.here hx rfl (hb hby at_144) rfl ?_
      show Steps p.tables e below (T34.setTop (mkF m 146 #[.val (.int sh), .val (.int cA), .val (.int cB), .val (.int cC), .val (.int t1), .val (.int t2), .val (.int al), .val (.ref b2), .val (.int s1), .val (.int l1), .val (.int s2), .val (.int l2), .val (.int s3), .val (.int l3), .unset, .unset, .unset] [(.int s1)])) _
      refine XS.iload X34.here hx rfl (hb hby at_146) rfl ?_
      by_cases hA : s1 = s2
      ·
        show Steps p.tables e below (T34.setTop (mkF m 148 #[.val (.int sh), .val (.int cA), .val (.int cB), .val (.int cC), .val (.int t1), .val (.int t2), .val (.int al), .val (.ref b2), .val (.int s1), .val (.int l1), .val (.int s2), .val (.int l2), .val (.int s3), .val (.int l3), .unset, .unset, .unset] [(.int s2), (.int s1)])) _
        refine XS.icmpNo X34.here hx rfl (hb hby at_148) rfl (teq hA).2 ?_
        show Steps p.tables e below (T34.setTop (mkF m 151 #[.val (.int sh), .val (.int cA), .val (.int cB), .val (.int cC), .val (.int t1), .val (.int t2), .val (.int al), .val (.ref b2), .val (.int s1), .val (.int l1), .val (.int s2), .val (.int l2), .val (.int s3), .val (.int l3), .unset, .unset, .unset] [])) _
        refine XS.iload X34.here hx rfl (hb hby at_151) rfl ?_
        show Steps p.tables e below (T34.setTop (mkF m 153 #[.val (.int sh), .val (.int cA), .val (.int cB), .val (.int cC), .val (.int t1), .val (.int t2), .val (.int al), .val (.ref b2), .val (.int s1), .val (.int l1), .val (.int s2), .val (.int l2), .val (.int s3), .val (.int l3), .unset, .unset, .unset] [(.int l1)])) _
        refine XS.iload X34.here hx rfl (hb hby at_153) rfl ?_
        by_cases hB : l1 = l2
        ·
          show Steps p.tables e below (T34.setTop (mkF m 155 #[.val (.int sh), .val (.int cA), .val (.int cB), .val (.int cC), .val (.int t1), .val (.int t2), .val (.int al), .val (.ref b2), .val (.int s1), .val (.int l1), .val (.int s2), .val (.int l2), .val (.int s3), .val (.int l3), .unset, .unset, .unset] [(.int l2), (.int l1)])) _
          refine XS.icmpNo X34.here hx rfl (hb hby at_155) rfl (teq hB).2 ?_
          show Steps p.tables e below (T34.setTop (mkF m 158 #[.val (.int sh), .val (.int cA), .val (.int cB), .val (.int cC), .val (.int t1), .val (.int t2), .val (.int al), .val (.ref b2), .val (.int s1), .val (.int l1), .val (.int s2), .val (.int l2), .val (.int s3), .val (.int l3), .unset, .unset, .unset] [])) _
          refine XS.iconst X34.here hx rfl (hb hby at_158) ?_
          show Steps p.tables e below (T34.setTop (mkF m 159 #[.val (.int sh), .val (.int cA), .val (.int cB), .val (.int cC), .val (.int t1), .val (.int t2), .val (.int al), .val (.ref b2), .val (.int s1), .val (.int l1), .val (.int s2), .val (.int l2), .val (.int s3), .val (.int l3), .unset, .unset, .unset] [(.int (1 : Int32))])) _
          refine XS.goto X34.here hx rfl (pc0 := 159) (pc' := 163) rfl (hb hby at_159) (by decide) (by decide) ?_
          show Steps p.tables e below (T34.setTop (mkF m 163 #[.val (.int sh), .val (.int cA), .val (.int cB), .val (.int cC), .val (.int t1), .val (.int t2), .val (.int al), .val (.ref b2), .val (.int s1), .val (.int l1), .val (.int s2), .val (.int l2), .val (.int s3), .val (.int l3), .unset, .unset, .unset] [(.int (1 : Int32))])) _
          refine XS.istore X34.here hx rfl (hb hby at_163) rfl (l' := #[.val (.int sh), .val (.int cA), .val (.int cB), .val (.int cC), .val (.int t1), .val (.int t2), .val (.int al), .val (.ref b2), .val (.int s1), .val (.int l1), .val (.int s2), .val (.int l2), .val (.int s3), .val (.int l3), .val (.int (1 : Int32)), .unset, .unset]) rfl ?_
          show Steps p.tables e below (T34.setTop (mkF m 165 #[.val (.int sh), .val (.int cA), .val (.int cB), .val (.int cC), .val (.int t1), .val (.int t2), .val (.int al), .val (.ref b2), .val (.int s1), .val (.int l1), .val (.int s2), .val (.int l2), .val (.int s3), .val (.int l3), .val (.int (1 : Int32)), .unset, .unset] [])) _
          refine XS.iload X34.here hx rfl (hb hby at_165) rfl ?_
          show Steps p.tables e below (T34.setTop (mkF m 167 #[.val (.int sh), .val (.int cA), .val (.int cB), .val (.int cC), .val (.int t1), .val (.int t2), .val (.int al), .val (.ref b2), .val (.int s1), .val (.int l1), .val (.int s2), .val (.int l2), .val (.int s3), .val (.int l3), .val (.int (1 : Int32)), .unset, .unset] [(.int (1 : Int32))])) _
          refine XS.ifNo X34.here hx rfl (hb hby at_167) rfl ((if0 _ _).trans (feq (by decide)).1) ?_
          show Steps p.tables e below (T34.setTop (mkF m 170 #[.val (.int sh), .val (.int cA), .val (.int cB), .val (.int cC), .val (.int t1), .val (.int t2), .val (.int al), .val (.ref b2), .val (.int s1), .val (.int l1), .val (.int s2), .val (.int l2), .val (.int s3), .val (.int l3), .val (.int (1 : Int32)), .unset, .unset] [])) _
          refine XS.iload X34.here hx rfl (hb hby at_170) rfl ?_
          show Steps p.tables e below (T34.setTop (mkF m 172 #[.val (.int sh), .val (.int cA), .val (.int cB), .val (.int cC), .val (.int t1), .val (.int t2), .val (.int al), .val (.ref b2), .val (.int s1), .val (.int l1), .val (.int s2), .val (.int l2), .val (.int s3), .val (.int l3), .val (.int (1 : Int32)), .unset, .unset] [(.int t2)])) _
          refine XS.goto X34.here hx rfl (pc0 := 172) (pc' := 177) rfl (hb hby at_172) (by decide) (by decide) ?_
          show Steps p.tables e below (T34.setTop (mkF m 177 #[.val (.int sh), .val (.int cA), .val (.int cB), .val (.int cC), .val (.int t1), .val (.int t2), .val (.int al), .val (.ref b2), .val (.int s1), .val (.int l1), .val (.int s2), .val (.int l2), .val (.int s3), .val (.int l3), .val (.int (1 : Int32)), .unset, .unset] [(.int t2)])) _
          refine XS.istore X34.here hx rfl (hb hby at_177) rfl (l' := #[.val (.int sh), .val (.int cA), .val (.int cB), .val (.int cC), .val (.int t1), .val (.int t2), .val (.int al), .val (.ref b2), .val (.int s1), .val (.int l1), .val (.int s2), .val (.int l2), .val (.int s3), .val (.int l3), .val (.int (1 : Int32)), .val (.int t2), .unset]) rfl ?_
          rw [(own_e_tt hA hB t1 t2).1, (own_e_tt hA hB t1 t2).2] at k; exact k
        ·
          show Steps p.tables e below (T34.setTop (mkF m 155 #[.val (.int sh), .val (.int cA), .val (.int cB), .val (.int cC), .val (.int t1), .val (.int t2), .val (.int al), .val (.ref b2), .val (.int s1), .val (.int l1), .val (.int s2), .val (.int l2), .val (.int s3), .val (.int l3), .unset, .unset, .unset] [(.int l2), (.int l1)])) _
          refine XS.icmpYes X34.here hx rfl (pc0 := 155) (pc' := 162) rfl (hb hby at_155) rfl (feq hB).2 (by decide) (by decide) ?_
          show Steps p.tables e below (T34.setTop (mkF m 162 #[.val (.int sh), .val (.int cA), .val (.int cB), .val (.int cC), .val (.int t1), .val (.int t2), .val (.int al), .val (.ref b2), .val (.int s1), .val (.int l1), .val (.int s2), .val (.int l2), .val (.int s3), .val (.int l3), .unset, .unset, .unset] [])) _
          refine XS.iconst X34.here hx rfl (hb hby at_162) ?_
          show Steps p.tables e below (T34.setTop (mkF m 163 #[.val (.int sh), .val (.int cA), .val (.int cB), .val (.int cC), .val (.int t1), .val (.int t2), .val (.int al), .val (.ref b2), .val (.int s1), .val (.int l1), .val (.int s2), .val (.int l2), .val (.int s3), .val (.int l3), .unset, .unset, .unset] [(.int (0 : Int32))])) _
          refine XS.istore X34.here hx rfl (hb hby at_163) rfl (l' := #[.val (.int sh), .val (.int cA), .val (.int cB), .val (.int cC), .val (.int t1), .val (.int t2), .val (.int al), .val (.ref b2), .val (.int s1), .val (.int l1), .val (.int s2), .val (.int l2), .val (.int s3), .val (.int l3), .val (.int (0 : Int32)), .unset, .unset]) rfl ?_
          show Steps p.tables e below (T34.setTop (mkF m 165 #[.val (.int sh), .val (.int cA), .val (.int cB), .val (.int cC), .val (.int t1), .val (.int t2), .val (.int al), .val (.ref b2), .val (.int s1), .val (.int l1), .val (.int s2), .val (.int l2), .val (.int s3), .val (.int l3), .val (.int (0 : Int32)), .unset, .unset] [])) _
          refine XS.iload X34.here hx rfl (hb hby at_165) rfl ?_
          show Steps p.tables e below (T34.setTop (mkF m 167 #[.val (.int sh), .val (.int cA), .val (.int cB), .val (.int cC), .val (.int t1), .val (.int t2), .val (.int al), .val (.ref b2), .val (.int s1), .val (.int l1), .val (.int s2), .val (.int l2), .val (.int s3), .val (.int l3), .val (.int (0 : Int32)), .unset, .unset] [(.int (0 : Int32))])) _
          refine XS.ifYes X34.here hx rfl (pc0 := 167) (pc' := 175) rfl (hb hby at_167) rfl ((if0 _ _).trans (teq rfl).1) (by decide) (by decide) ?_
          show Steps p.tables e below (T34.setTop (mkF m 175 #[.val (.int sh), .val (.int cA), .val (.int cB), .val (.int cC), .val (.int t1), .val (.int t2), .val (.int al), .val (.ref b2), .val (.int s1), .val (.int l1), .val (.int s2), .val (.int l2), .val (.int s3), .val (.int l3), .val (.int (0 : Int32)), .unset, .unset] [])) _
          refine XS.iload X34.here hx rfl (hb hby at_175) rfl ?_
          show Steps p.tables e below (T34.setTop (mkF m 177 #[.val (.int sh), .val (.int cA), .val (.int cB), .val (.int cC), .val (.int t1), .val (.int t2), .val (.int al), .val (.ref b2), .val (.int s1), .val (.int l1), .val (.int s2), .val (.int l2), .val (.int s3), .val (.int l3), .val (.int (0 : Int32)), .unset, .unset] [(.int t1)])) _
          refine XS.istore X34.here hx rfl (hb hby at_177) rfl (l' := #[.val (.int sh), .val (.int cA), .val (.int cB), .val (.int cC), .val (.int t1), .val (.int t2), .val (.int al), .val (.ref b2), .val (.int s1), .val (.int l1), .val (.int s2), .val (.int l2), .val (.int s3), .val (.int l3), .val (.int (0 : Int32)), .val (.int t1), .unset]) rfl ?_
          rw [(own_e_f (fun q => hB q.2) t1 t2).1, (own_e_f (fun q => hB q.2) t1 t2).2] at k; exact k
      ·
        show Steps p.tables e below (T34.setTop (mkF m 148 #[.val (.int sh), .val (.int cA), .val (.int cB), .val (.int cC), .val (.int t1), .val (.int t2), .val (.int al), .val (.ref b2), .val (.int s1), .val (.int l1), .val (.int s2), .val (.int l2), .val (.int s3), .val (.int l3), .unset, .unset, .unset] [(.int s2), (.int s1)])) _
        refine XS.icmpYes X34.here hx rfl (pc0 := 148) (pc' := 162) rfl (hb hby at_148) rfl (feq hA).2 (by decide) (by decide) ?_
        show Steps p.tables e below (T34.setTop (mkF m 162 #[.val (.int sh), .val (.int cA), .val (.int cB), .val (.int cC), .val (.int t1), .val (.int t2), .val (.int al), .val (.ref b2), .val (.int s1), .val (.int l1), .val (.int s2), .val (.int l2), .val (.int s3), .val (.int l3), .unset, .unset, .unset] [])) _
        refine XS.iconst X34.here hx rfl (hb hby at_162) ?_
        show Steps p.tables e below (T34.setTop (mkF m 163 #[.val (.int sh), .val (.int cA), .val (.int cB), .val (.int cC), .val (.int t1), .val (.int t2), .val (.int al), .val (.ref b2), .val (.int s1), .val (.int l1), .val (.int s2), .val (.int l2), .val (.int s3), .val (.int l3), .unset, .unset, .unset] [(.int (0 : Int32))])) _
        refine XS.istore X34.here hx rfl (hb hby at_163) rfl (l' := #[.val (.int sh), .val (.int cA), .val (.int cB), .val (.int cC), .val (.int t1), .val (.int t2), .val (.int al), .val (.ref b2), .val (.int s1), .val (.int l1), .val (.int s2), .val (.int l2), .val (.int s3), .val (.int l3), .val (.int (0 : Int32)), .unset, .unset]) rfl ?_
        show Steps p.tables e below (T34.setTop (mkF m 165 #[.val (.int sh), .val (.int cA), .val (.int cB), .val (.int cC), .val (.int t1), .val (.int t2), .val (.int al), .val (.ref b2), .val (.int s1), .val (.int l1), .val (.int s2), .val (.int l2), .val (.int s3), .val (.int l3), .val (.int (0 : Int32)), .unset, .unset] [])) _
        refine XS.iload X34.here hx rfl (hb hby at_165) rfl ?_
        show Steps p.tables e below (T34.setTop (mkF m 167 #[.val (.int sh), .val (.int cA), .val (.int cB), .val (.int cC), .val (.int t1), .val (.int t2), .val (.int al), .val (.ref b2), .val (.int s1), .val (.int l1), .val (.int s2), .val (.int l2), .val (.int s3), .val (.int l3), .val (.int (0 : Int32)), .unset, .unset] [(.int (0 : Int32))])) _
        refine XS.ifYes X34.here hx rfl (pc0 := 167) (pc' := 175) rfl (hb hby at_167) rfl ((if0 _ _).trans (teq rfl).1) (by decide) (by decide) ?_
        show Steps p.tables e below (T34.setTop (mkF m 175 #[.val (.int sh), .val (.int cA), .val (.int cB), .val (.int cC), .val (.int t1), .val (.int t2), .val (.int al), .val (.ref b2), .val (.int s1), .val (.int l1), .val (.int s2), .val (.int l2), .val (.int s3), .val (.int l3), .val (.int (0 : Int32)), .unset, .unset] [])) _
        refine XS.iload X34.here hx rfl (hb hby at_175) rfl ?_
        show Steps p.tables e below (T34.setTop (mkF m 177 #[.val (.int sh), .val (.int cA), .val (.int cB), .val (.int cC), .val (.int t1), .val (.int t2), .val (.int al), .val (.ref b2), .val (.int s1), .val (.int l1), .val (.int s2), .val (.int l2), .val (.int s3), .val (.int l3), .val (.int (0 : Int32)), .unset, .unset] [(.int t1)])) _
        refine XS.istore X34.here hx rfl (hb hby at_177) rfl (l' := #[.val (.int sh), .val (.int cA), .val (.int cB), .val (.int cC), .val (.int t1), .val (.int t2), .val (.int al), .val (.ref b2), .val (.int s1), .val (.int l1), .val (.int s2), .val (.int l2), .val (.int s3), .val (.int l3), .val (.int (0 : Int32)), .val (.int t1), .unset]) rfl ?_
        rw [(own_e_f (fun q => hA q.1) t1 t2).1, (own_e_f (fun q => hA q.1) t1 t2).2] at k; exact k)
  have ac38 : ∀ t, Steps p.tables e below (T34.setTop (mkF m 224 #[.val (.int sh), .val (.int cA), .val (.int cB), .val (.int cC), .val (.int t1), .val (.int t2), .val (.int al), .val (.ref b2), .val (.int s1), .val (.int l1), .val (.int s2), .val (.int l2), .val (.int s3), .val (.int l3), .val (.int (own_b s1 l1 s2 l2)), .val (.int (own_e1 s1 l1 s2 l2 t1 t2)), .val (.int (own_e3 s1 l1 s2 l2 s3 l3 t1 t2))] [])) t → Steps p.tables e below (s₁.setTop (entryFrame m #[(.int sh), (.int cA), (.int cB), (.int cC), (.int t1), (.int t2)] maxLocals)) t := fun t k => ac37 t (by
      show Steps p.tables e below (T34.setTop (mkF m 179 #[.val (.int sh), .val (.int cA), .val (.int cB), .val (.int cC), .val (.int t1), .val (.int t2), .val (.int al), .val (.ref b2), .val (.int s1), .val (.int l1), .val (.int s2), .val (.int l2), .val (.int s3), .val (.int l3), .val (.int (own_b s1 l1 s2 l2)), .val (.int (own_e1 s1 l1 s2 l2 t1 t2)), .unset] [])) _
      refine XS.iload X34.here hx rfl (hb hby at_179) rfl ?_
      show Steps p.tables e below (T34.setTop (mkF m 181 #[.val (.int sh), .val (.int cA), .val (.int cB), .val (.int cC), .val (.int t1), .val (.int t2), .val (.int al), .val (.ref b2), .val (.int s1), .val (.int l1), .val (.int s2), .val (.int l2), .val (.int s3), .val (.int l3), .val (.int (own_b s1 l1 s2 l2)), .val (.int (own_e1 s1 l1 s2 l2 t1 t2)), .unset] [(.int s3)])) _
      refine XS.iload X34.here hx rfl (hb hby at_181) rfl ?_
      by_cases hA : s3 = s2
      ·
        show Steps p.tables e below (T34.setTop (mkF m 183 #[.val (.int sh), .val (.int cA), .val (.int cB), .val (.int cC), .val (.int t1), .val (.int t2), .val (.int al), .val (.ref b2), .val (.int s1), .val (.int l1), .val (.int s2), .val (.int l2), .val (.int s3), .val (.int l3), .val (.int (own_b s1 l1 s2 l2)), .val (.int (own_e1 s1 l1 s2 l2 t1 t2)), .unset] [(.int s2), (.int s3)])) _
        refine XS.icmpNo X34.here hx rfl (hb hby at_183) rfl (teq hA).2 ?_
        show Steps p.tables e below (T34.setTop (mkF m 186 #[.val (.int sh), .val (.int cA), .val (.int cB), .val (.int cC), .val (.int t1), .val (.int t2), .val (.int al), .val (.ref b2), .val (.int s1), .val (.int l1), .val (.int s2), .val (.int l2), .val (.int s3), .val (.int l3), .val (.int (own_b s1 l1 s2 l2)), .val (.int (own_e1 s1 l1 s2 l2 t1 t2)), .unset] [])) _
        refine XS.iload X34.here hx rfl (hb hby at_186) rfl ?_
        show Steps p.tables e below (T34.setTop (mkF m 188 #[.val (.int sh), .val (.int cA), .val (.int cB), .val (.int cC), .val (.int t1), .val (.int t2), .val (.int al), .val (.ref b2), .val (.int s1), .val (.int l1), .val (.int s2), .val (.int l2), .val (.int s3), .val (.int l3), .val (.int (own_b s1 l1 s2 l2)), .val (.int (own_e1 s1 l1 s2 l2 t1 t2)), .unset] [(.int l3)])) _
        refine XS.iload X34.here hx rfl (hb hby at_188) rfl ?_
        by_cases hB : l3 = l2
        ·
          show Steps p.tables e below (T34.setTop (mkF m 190 #[.val (.int sh), .val (.int cA), .val (.int cB), .val (.int cC), .val (.int t1), .val (.int t2), .val (.int al), .val (.ref b2), .val (.int s1), .val (.int l1), .val (.int s2), .val (.int l2), .val (.int s3), .val (.int l3), .val (.int (own_b s1 l1 s2 l2)), .val (.int (own_e1 s1 l1 s2 l2 t1 t2)), .unset] [(.int l2), (.int l3)])) _
          refine XS.icmpNo X34.here hx rfl (hb hby at_190) rfl (teq hB).2 ?_
          show Steps p.tables e below (T34.setTop (mkF m 193 #[.val (.int sh), .val (.int cA), .val (.int cB), .val (.int cC), .val (.int t1), .val (.int t2), .val (.int al), .val (.ref b2), .val (.int s1), .val (.int l1), .val (.int s2), .val (.int l2), .val (.int s3), .val (.int l3), .val (.int (own_b s1 l1 s2 l2)), .val (.int (own_e1 s1 l1 s2 l2 t1 t2)), .unset] [])) _
          refine XS.iload X34.here hx rfl (hb hby at_193) rfl ?_
          show Steps p.tables e below (T34.setTop (mkF m 195 #[.val (.int sh), .val (.int cA), .val (.int cB), .val (.int cC), .val (.int t1), .val (.int t2), .val (.int al), .val (.ref b2), .val (.int s1), .val (.int l1), .val (.int s2), .val (.int l2), .val (.int s3), .val (.int l3), .val (.int (own_b s1 l1 s2 l2)), .val (.int (own_e1 s1 l1 s2 l2 t1 t2)), .unset] [(.int t2)])) _
          refine XS.istore X34.here hx rfl (hb hby at_195) rfl (l' := #[.val (.int sh), .val (.int cA), .val (.int cB), .val (.int cC), .val (.int t1), .val (.int t2), .val (.int al), .val (.ref b2), .val (.int s1), .val (.int l1), .val (.int s2), .val (.int l2), .val (.int s3), .val (.int l3), .val (.int (own_b s1 l1 s2 l2)), .val (.int (own_e1 s1 l1 s2 l2 t1 t2)), .val (.int t2)]) rfl ?_
          show Steps p.tables e below (T34.setTop (mkF m 197 #[.val (.int sh), .val (.int cA), .val (.int cB), .val (.int cC), .val (.int t1), .val (.int t2), .val (.int al), .val (.ref b2), .val (.int s1), .val (.int l1), .val (.int s2), .val (.int l2), .val (.int s3), .val (.int l3), .val (.int (own_b s1 l1 s2 l2)), .val (.int (own_e1 s1 l1 s2 l2 t1 t2)), .val (.int t2)] [])) _
          refine XS.goto X34.here hx rfl (pc0 := 197) (pc' := 224) rfl (hb hby at_197) (by decide) (by decide) ?_
          rw [own_e3_a ⟨hA, hB⟩] at k; exact k
        ·
          show Steps p.tables e below (T34.setTop (mkF m 190 #[.val (.int sh), .val (.int cA), .val (.int cB), .val (.int cC), .val (.int t1), .val (.int t2), .val (.int al), .val (.ref b2), .val (.int s1), .val (.int l1), .val (.int s2), .val (.int l2), .val (.int s3), .val (.int l3), .val (.int (own_b s1 l1 s2 l2)), .val (.int (own_e1 s1 l1 s2 l2 t1 t2)), .unset] [(.int l2), (.int l3)])) _
          refine XS.icmpYes X34.here hx rfl (pc0 := 190) (pc' := 200) rfl (hb hby at_190) rfl (feq hB).2 (by decide) (by decide) ?_
          show Steps p.tables e below (T34.setTop (mkF m 200 #[.val (.int sh), .val (.int cA), .val (.int cB), .val (.int cC), .val (.int t1), .val (.int t2), .val (.int al), .val (.ref b2), .val (.int s1), .val (.int l1), .val (.int s2), .val (.int l2), .val (.int s3), .val (.int l3), .val (.int (own_b s1 l1 s2 l2)), .val (.int (own_e1 s1 l1 s2 l2 t1 t2)), .unset] [])) _
          refine XS.iload X34.here hx rfl (hb hby at_200) rfl ?_
          show Steps p.tables e below (T34.setTop (mkF m 202 #[.val (.int sh), .val (.int cA), .val (.int cB), .val (.int cC), .val (.int t1), .val (.int t2), .val (.int al), .val (.ref b2), .val (.int s1), .val (.int l1), .val (.int s2), .val (.int l2), .val (.int s3), .val (.int l3), .val (.int (own_b s1 l1 s2 l2)), .val (.int (own_e1 s1 l1 s2 l2 t1 t2)), .unset] [(.int s3)])) _
          refine XS.iload X34.here hx rfl (hb hby at_202) rfl ?_
          by_cases hC : s3 = s1
          ·
            show Steps p.tables e below (T34.setTop (mkF m 204 #[.val (.int sh), .val (.int cA), .val (.int cB), .val (.int cC), .val (.int t1), .val (.int t2), .val (.int al), .val (.ref b2), .val (.int s1), .val (.int l1), .val (.int s2), .val (.int l2), .val (.int s3), .val (.int l3), .val (.int (own_b s1 l1 s2 l2)), .val (.int (own_e1 s1 l1 s2 l2 t1 t2)), .unset] [(.int s1), (.int s3)])) _
            refine XS.icmpNo X34.here hx rfl (hb hby at_204) rfl (teq hC).2 ?_
            show Steps p.tables e below (T34.setTop (mkF m 207 #[.val (.int sh), .val (.int cA), .val (.int cB), .val (.int cC), .val (.int t1), .val (.int t2), .val (.int al), .val (.ref b2), .val (.int s1), .val (.int l1), .val (.int s2), .val (.int l2), .val (.int s3), .val (.int l3), .val (.int (own_b s1 l1 s2 l2)), .val (.int (own_e1 s1 l1 s2 l2 t1 t2)), .unset] [])) _
            refine XS.iload X34.here hx rfl (hb hby at_207) rfl ?_
            show Steps p.tables e below (T34.setTop (mkF m 209 #[.val (.int sh), .val (.int cA), .val (.int cB), .val (.int cC), .val (.int t1), .val (.int t2), .val (.int al), .val (.ref b2), .val (.int s1), .val (.int l1), .val (.int s2), .val (.int l2), .val (.int s3), .val (.int l3), .val (.int (own_b s1 l1 s2 l2)), .val (.int (own_e1 s1 l1 s2 l2 t1 t2)), .unset] [(.int l3)])) _
            refine XS.iload X34.here hx rfl (hb hby at_209) rfl ?_
            by_cases hD : l3 = l1
            ·
              show Steps p.tables e below (T34.setTop (mkF m 211 #[.val (.int sh), .val (.int cA), .val (.int cB), .val (.int cC), .val (.int t1), .val (.int t2), .val (.int al), .val (.ref b2), .val (.int s1), .val (.int l1), .val (.int s2), .val (.int l2), .val (.int s3), .val (.int l3), .val (.int (own_b s1 l1 s2 l2)), .val (.int (own_e1 s1 l1 s2 l2 t1 t2)), .unset] [(.int l1), (.int l3)])) _
              refine XS.icmpNo X34.here hx rfl (hb hby at_211) rfl (teq hD).2 ?_
              show Steps p.tables e below (T34.setTop (mkF m 214 #[.val (.int sh), .val (.int cA), .val (.int cB), .val (.int cC), .val (.int t1), .val (.int t2), .val (.int al), .val (.ref b2), .val (.int s1), .val (.int l1), .val (.int s2), .val (.int l2), .val (.int s3), .val (.int l3), .val (.int (own_b s1 l1 s2 l2)), .val (.int (own_e1 s1 l1 s2 l2 t1 t2)), .unset] [])) _
              refine XS.iload X34.here hx rfl (hb hby at_214) rfl ?_
              show Steps p.tables e below (T34.setTop (mkF m 216 #[.val (.int sh), .val (.int cA), .val (.int cB), .val (.int cC), .val (.int t1), .val (.int t2), .val (.int al), .val (.ref b2), .val (.int s1), .val (.int l1), .val (.int s2), .val (.int l2), .val (.int s3), .val (.int l3), .val (.int (own_b s1 l1 s2 l2)), .val (.int (own_e1 s1 l1 s2 l2 t1 t2)), .unset] [(.int t1)])) _
              refine XS.istore X34.here hx rfl (hb hby at_216) rfl (l' := #[.val (.int sh), .val (.int cA), .val (.int cB), .val (.int cC), .val (.int t1), .val (.int t2), .val (.int al), .val (.ref b2), .val (.int s1), .val (.int l1), .val (.int s2), .val (.int l2), .val (.int s3), .val (.int l3), .val (.int (own_b s1 l1 s2 l2)), .val (.int (own_e1 s1 l1 s2 l2 t1 t2)), .val (.int t1)]) rfl ?_
              show Steps p.tables e below (T34.setTop (mkF m 218 #[.val (.int sh), .val (.int cA), .val (.int cB), .val (.int cC), .val (.int t1), .val (.int t2), .val (.int al), .val (.ref b2), .val (.int s1), .val (.int l1), .val (.int s2), .val (.int l2), .val (.int s3), .val (.int l3), .val (.int (own_b s1 l1 s2 l2)), .val (.int (own_e1 s1 l1 s2 l2 t1 t2)), .val (.int t1)] [])) _
              refine XS.goto X34.here hx rfl (pc0 := 218) (pc' := 224) rfl (hb hby at_218) (by decide) (by decide) ?_
              rw [own_e3_b (fun q => hB q.2) ⟨hC, hD⟩] at k; exact k
            ·
              show Steps p.tables e below (T34.setTop (mkF m 211 #[.val (.int sh), .val (.int cA), .val (.int cB), .val (.int cC), .val (.int t1), .val (.int t2), .val (.int al), .val (.ref b2), .val (.int s1), .val (.int l1), .val (.int s2), .val (.int l2), .val (.int s3), .val (.int l3), .val (.int (own_b s1 l1 s2 l2)), .val (.int (own_e1 s1 l1 s2 l2 t1 t2)), .unset] [(.int l1), (.int l3)])) _
              refine XS.icmpYes X34.here hx rfl (pc0 := 211) (pc' := 221) rfl (hb hby at_211) rfl (feq hD).2 (by decide) (by decide) ?_
              show Steps p.tables e below (T34.setTop (mkF m 221 #[.val (.int sh), .val (.int cA), .val (.int cB), .val (.int cC), .val (.int t1), .val (.int t2), .val (.int al), .val (.ref b2), .val (.int s1), .val (.int l1), .val (.int s2), .val (.int l2), .val (.int s3), .val (.int l3), .val (.int (own_b s1 l1 s2 l2)), .val (.int (own_e1 s1 l1 s2 l2 t1 t2)), .unset] [])) _
              refine XS.iconst X34.here hx rfl (hb hby at_221) ?_
              show Steps p.tables e below (T34.setTop (mkF m 222 #[.val (.int sh), .val (.int cA), .val (.int cB), .val (.int cC), .val (.int t1), .val (.int t2), .val (.int al), .val (.ref b2), .val (.int s1), .val (.int l1), .val (.int s2), .val (.int l2), .val (.int s3), .val (.int l3), .val (.int (own_b s1 l1 s2 l2)), .val (.int (own_e1 s1 l1 s2 l2 t1 t2)), .unset] [(.int (-1 : Int32))])) _
              refine XS.istore X34.here hx rfl (hb hby at_222) rfl (l' := #[.val (.int sh), .val (.int cA), .val (.int cB), .val (.int cC), .val (.int t1), .val (.int t2), .val (.int al), .val (.ref b2), .val (.int s1), .val (.int l1), .val (.int s2), .val (.int l2), .val (.int s3), .val (.int l3), .val (.int (own_b s1 l1 s2 l2)), .val (.int (own_e1 s1 l1 s2 l2 t1 t2)), .val (.int (-1 : Int32))]) rfl ?_
              rw [own_e3_c (fun q => hB q.2) (fun q => hD q.2)] at k; exact k
          ·
            show Steps p.tables e below (T34.setTop (mkF m 204 #[.val (.int sh), .val (.int cA), .val (.int cB), .val (.int cC), .val (.int t1), .val (.int t2), .val (.int al), .val (.ref b2), .val (.int s1), .val (.int l1), .val (.int s2), .val (.int l2), .val (.int s3), .val (.int l3), .val (.int (own_b s1 l1 s2 l2)), .val (.int (own_e1 s1 l1 s2 l2 t1 t2)), .unset] [(.int s1), (.int s3)])) _
            refine XS.icmpYes X34.here hx rfl (pc0 := 204) (pc' := 221) rfl (hb hby at_204) rfl (feq hC).2 (by decide) (by decide) ?_
            show Steps p.tables e below (T34.setTop (mkF m 221 #[.val (.int sh), .val (.int cA), .val (.int cB), .val (.int cC), .val (.int t1), .val (.int t2), .val (.int al), .val (.ref b2), .val (.int s1), .val (.int l1), .val (.int s2), .val (.int l2), .val (.int s3), .val (.int l3), .val (.int (own_b s1 l1 s2 l2)), .val (.int (own_e1 s1 l1 s2 l2 t1 t2)), .unset] [])) _
            refine XS.iconst X34.here hx rfl (hb hby at_221) ?_
            show Steps p.tables e below (T34.setTop (mkF m 222 #[.val (.int sh), .val (.int cA), .val (.int cB), .val (.int cC), .val (.int t1), .val (.int t2), .val (.int al), .val (.ref b2), .val (.int s1), .val (.int l1), .val (.int s2), .val (.int l2), .val (.int s3), .val (.int l3), .val (.int (own_b s1 l1 s2 l2)), .val (.int (own_e1 s1 l1 s2 l2 t1 t2)), .unset] [(.int (-1 : Int32))])) _
            refine XS.istore X34.here hx rfl (hb hby at_222) rfl (l' := #[.val (.int sh), .val (.int cA), .val (.int cB), .val (.int cC), .val (.int t1), .val (.int t2), .val (.int al), .val (.ref b2), .val (.int s1), .val (.int l1), .val (.int s2), .val (.int l2), .val (.int s3), .val (.int l3), .val (.int (own_b s1 l1 s2 l2)), .val (.int (own_e1 s1 l1 s2 l2 t1 t2)), .val (.int (-1 : Int32))]) rfl ?_
            rw [own_e3_c (fun q => hB q.2) (fun q => hC q.1)] at k; exact k
      ·
        show Steps p.tables e below (T34.setTop (mkF m 183 #[.val (.int sh), .val (.int cA), .val (.int cB), .val (.int cC), .val (.int t1), .val (.int t2), .val (.int al), .val (.ref b2), .val (.int s1), .val (.int l1), .val (.int s2), .val (.int l2), .val (.int s3), .val (.int l3), .val (.int (own_b s1 l1 s2 l2)), .val (.int (own_e1 s1 l1 s2 l2 t1 t2)), .unset] [(.int s2), (.int s3)])) _
        refine XS.icmpYes X34.here hx rfl (pc0 := 183) (pc' := 200) rfl (hb hby at_183) rfl (feq hA).2 (by decide) (by decide) ?_
        show Steps p.tables e below (T34.setTop (mkF m 200 #[.val (.int sh), .val (.int cA), .val (.int cB), .val (.int cC), .val (.int t1), .val (.int t2), .val (.int al), .val (.ref b2), .val (.int s1), .val (.int l1), .val (.int s2), .val (.int l2), .val (.int s3), .val (.int l3), .val (.int (own_b s1 l1 s2 l2)), .val (.int (own_e1 s1 l1 s2 l2 t1 t2)), .unset] [])) _
        refine XS.iload X34.here hx rfl (hb hby at_200) rfl ?_
        show Steps p.tables e below (T34.setTop (mkF m 202 #[.val (.int sh), .val (.int cA), .val (.int cB), .val (.int cC), .val (.int t1), .val (.int t2), .val (.int al), .val (.ref b2), .val (.int s1), .val (.int l1), .val (.int s2), .val (.int l2), .val (.int s3), .val (.int l3), .val (.int (own_b s1 l1 s2 l2)), .val (.int (own_e1 s1 l1 s2 l2 t1 t2)), .unset] [(.int s3)])) _
        refine XS.iload X34.here hx rfl (hb hby at_202) rfl ?_
        by_cases hC : s3 = s1
        ·
          show Steps p.tables e below (T34.setTop (mkF m 204 #[.val (.int sh), .val (.int cA), .val (.int cB), .val (.int cC), .val (.int t1), .val (.int t2), .val (.int al), .val (.ref b2), .val (.int s1), .val (.int l1), .val (.int s2), .val (.int l2), .val (.int s3), .val (.int l3), .val (.int (own_b s1 l1 s2 l2)), .val (.int (own_e1 s1 l1 s2 l2 t1 t2)), .unset] [(.int s1), (.int s3)])) _
          refine XS.icmpNo X34.here hx rfl (hb hby at_204) rfl (teq hC).2 ?_
          show Steps p.tables e below (T34.setTop (mkF m 207 #[.val (.int sh), .val (.int cA), .val (.int cB), .val (.int cC), .val (.int t1), .val (.int t2), .val (.int al), .val (.ref b2), .val (.int s1), .val (.int l1), .val (.int s2), .val (.int l2), .val (.int s3), .val (.int l3), .val (.int (own_b s1 l1 s2 l2)), .val (.int (own_e1 s1 l1 s2 l2 t1 t2)), .unset] [])) _
          refine XS.iload X34.here hx rfl (hb hby at_207) rfl ?_
          show Steps p.tables e below (T34.setTop (mkF m 209 #[.val (.int sh), .val (.int cA), .val (.int cB), .val (.int cC), .val (.int t1), .val (.int t2), .val (.int al), .val (.ref b2), .val (.int s1), .val (.int l1), .val (.int s2), .val (.int l2), .val (.int s3), .val (.int l3), .val (.int (own_b s1 l1 s2 l2)), .val (.int (own_e1 s1 l1 s2 l2 t1 t2)), .unset] [(.int l3)])) _
          refine XS.iload X34.here hx rfl (hb hby at_209) rfl ?_
          by_cases hD : l3 = l1
          ·
            show Steps p.tables e below (T34.setTop (mkF m 211 #[.val (.int sh), .val (.int cA), .val (.int cB), .val (.int cC), .val (.int t1), .val (.int t2), .val (.int al), .val (.ref b2), .val (.int s1), .val (.int l1), .val (.int s2), .val (.int l2), .val (.int s3), .val (.int l3), .val (.int (own_b s1 l1 s2 l2)), .val (.int (own_e1 s1 l1 s2 l2 t1 t2)), .unset] [(.int l1), (.int l3)])) _
            refine XS.icmpNo X34.here hx rfl (hb hby at_211) rfl (teq hD).2 ?_
            show Steps p.tables e below (T34.setTop (mkF m 214 #[.val (.int sh), .val (.int cA), .val (.int cB), .val (.int cC), .val (.int t1), .val (.int t2), .val (.int al), .val (.ref b2), .val (.int s1), .val (.int l1), .val (.int s2), .val (.int l2), .val (.int s3), .val (.int l3), .val (.int (own_b s1 l1 s2 l2)), .val (.int (own_e1 s1 l1 s2 l2 t1 t2)), .unset] [])) _
            refine XS.iload X34.here hx rfl (hb hby at_214) rfl ?_
            show Steps p.tables e below (T34.setTop (mkF m 216 #[.val (.int sh), .val (.int cA), .val (.int cB), .val (.int cC), .val (.int t1), .val (.int t2), .val (.int al), .val (.ref b2), .val (.int s1), .val (.int l1), .val (.int s2), .val (.int l2), .val (.int s3), .val (.int l3), .val (.int (own_b s1 l1 s2 l2)), .val (.int (own_e1 s1 l1 s2 l2 t1 t2)), .unset] [(.int t1)])) _
            refine XS.istore X34.here hx rfl (hb hby at_216) rfl (l' := #[.val (.int sh), .val (.int cA), .val (.int cB), .val (.int cC), .val (.int t1), .val (.int t2), .val (.int al), .val (.ref b2), .val (.int s1), .val (.int l1), .val (.int s2), .val (.int l2), .val (.int s3), .val (.int l3), .val (.int (own_b s1 l1 s2 l2)), .val (.int (own_e1 s1 l1 s2 l2 t1 t2)), .val (.int t1)]) rfl ?_
            show Steps p.tables e below (T34.setTop (mkF m 218 #[.val (.int sh), .val (.int cA), .val (.int cB), .val (.int cC), .val (.int t1), .val (.int t2), .val (.int al), .val (.ref b2), .val (.int s1), .val (.int l1), .val (.int s2), .val (.int l2), .val (.int s3), .val (.int l3), .val (.int (own_b s1 l1 s2 l2)), .val (.int (own_e1 s1 l1 s2 l2 t1 t2)), .val (.int t1)] [])) _
            refine XS.goto X34.here hx rfl (pc0 := 218) (pc' := 224) rfl (hb hby at_218) (by decide) (by decide) ?_
            rw [own_e3_b (fun q => hA q.1) ⟨hC, hD⟩] at k; exact k
          ·
            show Steps p.tables e below (T34.setTop (mkF m 211 #[.val (.int sh), .val (.int cA), .val (.int cB), .val (.int cC), .val (.int t1), .val (.int t2), .val (.int al), .val (.ref b2), .val (.int s1), .val (.int l1), .val (.int s2), .val (.int l2), .val (.int s3), .val (.int l3), .val (.int (own_b s1 l1 s2 l2)), .val (.int (own_e1 s1 l1 s2 l2 t1 t2)), .unset] [(.int l1), (.int l3)])) _
            refine XS.icmpYes X34.here hx rfl (pc0 := 211) (pc' := 221) rfl (hb hby at_211) rfl (feq hD).2 (by decide) (by decide) ?_
            show Steps p.tables e below (T34.setTop (mkF m 221 #[.val (.int sh), .val (.int cA), .val (.int cB), .val (.int cC), .val (.int t1), .val (.int t2), .val (.int al), .val (.ref b2), .val (.int s1), .val (.int l1), .val (.int s2), .val (.int l2), .val (.int s3), .val (.int l3), .val (.int (own_b s1 l1 s2 l2)), .val (.int (own_e1 s1 l1 s2 l2 t1 t2)), .unset] [])) _
            refine XS.iconst X34.here hx rfl (hb hby at_221) ?_
            show Steps p.tables e below (T34.setTop (mkF m 222 #[.val (.int sh), .val (.int cA), .val (.int cB), .val (.int cC), .val (.int t1), .val (.int t2), .val (.int al), .val (.ref b2), .val (.int s1), .val (.int l1), .val (.int s2), .val (.int l2), .val (.int s3), .val (.int l3), .val (.int (own_b s1 l1 s2 l2)), .val (.int (own_e1 s1 l1 s2 l2 t1 t2)), .unset] [(.int (-1 : Int32))])) _
            refine XS.istore X34.here hx rfl (hb hby at_222) rfl (l' := #[.val (.int sh), .val (.int cA), .val (.int cB), .val (.int cC), .val (.int t1), .val (.int t2), .val (.int al), .val (.ref b2), .val (.int s1), .val (.int l1), .val (.int s2), .val (.int l2), .val (.int s3), .val (.int l3), .val (.int (own_b s1 l1 s2 l2)), .val (.int (own_e1 s1 l1 s2 l2 t1 t2)), .val (.int (-1 : Int32))]) rfl ?_
            rw [own_e3_c (fun q => hA q.1) (fun q => hD q.2)] at k; exact k
        ·
          show Steps p.tables e below (T34.setTop (mkF m 204 #[.val (.int sh), .val (.int cA), .val (.int cB), .val (.int cC), .val (.int t1), .val (.int t2), .val (.int al), .val (.ref b2), .val (.int s1), .val (.int l1), .val (.int s2), .val (.int l2), .val (.int s3), .val (.int l3), .val (.int (own_b s1 l1 s2 l2)), .val (.int (own_e1 s1 l1 s2 l2 t1 t2)), .unset] [(.int s1), (.int s3)])) _
          refine XS.icmpYes X34.here hx rfl (pc0 := 204) (pc' := 221) rfl (hb hby at_204) rfl (feq hC).2 (by decide) (by decide) ?_
          show Steps p.tables e below (T34.setTop (mkF m 221 #[.val (.int sh), .val (.int cA), .val (.int cB), .val (.int cC), .val (.int t1), .val (.int t2), .val (.int al), .val (.ref b2), .val (.int s1), .val (.int l1), .val (.int s2), .val (.int l2), .val (.int s3), .val (.int l3), .val (.int (own_b s1 l1 s2 l2)), .val (.int (own_e1 s1 l1 s2 l2 t1 t2)), .unset] [])) _
          refine XS.iconst X34.here hx rfl (hb hby at_221) ?_
          show Steps p.tables e below (T34.setTop (mkF m 222 #[.val (.int sh), .val (.int cA), .val (.int cB), .val (.int cC), .val (.int t1), .val (.int t2), .val (.int al), .val (.ref b2), .val (.int s1), .val (.int l1), .val (.int s2), .val (.int l2), .val (.int s3), .val (.int l3), .val (.int (own_b s1 l1 s2 l2)), .val (.int (own_e1 s1 l1 s2 l2 t1 t2)), .unset] [(.int (-1 : Int32))])) _
          refine XS.istore X34.here hx rfl (hb hby at_222) rfl (l' := #[.val (.int sh), .val (.int cA), .val (.int cB), .val (.int cC), .val (.int t1), .val (.int t2), .val (.int al), .val (.ref b2), .val (.int s1), .val (.int l1), .val (.int s2), .val (.int l2), .val (.int s3), .val (.int l3), .val (.int (own_b s1 l1 s2 l2)), .val (.int (own_e1 s1 l1 s2 l2 t1 t2)), .val (.int (-1 : Int32))]) rfl ?_
          rw [own_e3_c (fun q => hA q.1) (fun q => hC q.1)] at k; exact k)
  have ac39 : ∀ t, Steps p.tables e below (T34.setTop (mkF m 230 #[.val (.int sh), .val (.int cA), .val (.int cB), .val (.int cC), .val (.int t1), .val (.int t2), .val (.int al), .val (.ref b2), .val (.int s1), .val (.int l1), .val (.int s2), .val (.int l2), .val (.int s3), .val (.int l3), .val (.int (own_b s1 l1 s2 l2)), .val (.int (own_e1 s1 l1 s2 l2 t1 t2)), .val (.int (own_e3 s1 l1 s2 l2 s3 l3 t1 t2))] [(.int l1), (.int s1), (.ref b2)])) t → Steps p.tables e below (s₁.setTop (entryFrame m #[(.int sh), (.int cA), (.int cB), (.int cC), (.int t1), (.int t2)] maxLocals)) t := fun t k => ac38 t (by
      show Steps p.tables e below (T34.setTop (mkF m 224 #[.val (.int sh), .val (.int cA), .val (.int cB), .val (.int cC), .val (.int t1), .val (.int t2), .val (.int al), .val (.ref b2), .val (.int s1), .val (.int l1), .val (.int s2), .val (.int l2), .val (.int s3), .val (.int l3), .val (.int (own_b s1 l1 s2 l2)), .val (.int (own_e1 s1 l1 s2 l2 t1 t2)), .val (.int (own_e3 s1 l1 s2 l2 s3 l3 t1 t2))] [])) _
      refine XS.aload X34.here hx rfl (hb hby at_224) rfl rfl ?_
      show Steps p.tables e below (T34.setTop (mkF m 226 #[.val (.int sh), .val (.int cA), .val (.int cB), .val (.int cC), .val (.int t1), .val (.int t2), .val (.int al), .val (.ref b2), .val (.int s1), .val (.int l1), .val (.int s2), .val (.int l2), .val (.int s3), .val (.int l3), .val (.int (own_b s1 l1 s2 l2)), .val (.int (own_e1 s1 l1 s2 l2 t1 t2)), .val (.int (own_e3 s1 l1 s2 l2 s3 l3 t1 t2))] [(.ref b2)])) _
      refine XS.iload X34.here hx rfl (hb hby at_226) rfl ?_
      show Steps p.tables e below (T34.setTop (mkF m 228 #[.val (.int sh), .val (.int cA), .val (.int cB), .val (.int cC), .val (.int t1), .val (.int t2), .val (.int al), .val (.ref b2), .val (.int s1), .val (.int l1), .val (.int s2), .val (.int l2), .val (.int s3), .val (.int l3), .val (.int (own_b s1 l1 s2 l2)), .val (.int (own_e1 s1 l1 s2 l2 t1 t2)), .val (.int (own_e3 s1 l1 s2 l2 s3 l3 t1 t2))] [(.int s1), (.ref b2)])) _
      refine XS.iload X34.here hx rfl (hb hby at_228) rfl ?_
      exact k)
  obtain ⟨cq40, kq40, q40a, q40b, q40c⟩ := isOf hZ rfl HB34.1
  obtain ⟨_, _, ⟨T40, L40, k40, n40⟩, -, X40, ⟨Lc40, hQ40, l40, y40, z40⟩, st40⟩ := X34.virtualBack hx (y := (⟨"com/example/boxwise/boxwise/Dfa$Builder", "next", "(II)I"⟩ : MethodName)) (z := (⟨"com/example/boxwise/boxwise/Dfa$Builder", "next", "(II)I"⟩ : MethodName)) hown (mvT hZ (hw _ (List.mem_of_getElem? (i := 54) rfl))) (mvT hZ (hw _ (List.mem_of_getElem? (i := 55) rfl))) (notFace_of_selects (args := #[]) (mvT hZ (hw _ (List.mem_of_getElem? (i := 57) rfl)))) (mvT hZ (hw _ (List.mem_of_getElem? (i := 57) rfl))) (mvT hZ (hw _ (List.mem_of_getElem? (i := 56) rfl))) (by decide) (backOf (W := 0) (rm11 l Z a0 hw [] b2 s1 l1 _ _ _ _ _ _ _ _ (sn1 * an + ln1) (own_e1 s1 l1 s2 l2 t1 t2) T34.heap n0 Z34 HB34 (own_ix hs1 hal hl1 hs13 h8a hl1a).1 (own_ix hs1 hal hl1 hs13 h8a hl1a).2 ((own_at hs1 hl1 hs1 hl1 hs2 hl2 hl1a hl1a hl2a).trans (congrArg Value.int (own_e3_1 s1 l1 s2 l2 t1 t2)))) hZ (hw _ (List.mem_of_getElem? (i := 58) rfl)) (hw _ (List.mem_of_getElem? (i := 2) rfl)) (by decide) (by decide)) q40a q40c (g := (mkF m 230 #[.val (.int sh), .val (.int cA), .val (.int cB), .val (.int cC), .val (.int t1), .val (.int t2), .val (.int al), .val (.ref b2), .val (.int s1), .val (.int l1), .val (.int s2), .val (.int l2), .val (.int s3), .val (.int l3), .val (.int (own_b s1 l1 s2 l2)), .val (.int (own_e1 s1 l1 s2 l2 t1 t2)), .val (.int (own_e3 s1 l1 s2 l2 s3 l3 t1 t2))] [(.int l1), (.int s1), (.ref b2)])) rfl (by rw [hml]; rfl) (Steps.refl _) (argsL := [(.int s1), (.int l1)]) (rest := []) (lenOf pd_3 rfl) rfl (by show 2 * 0 + _ ≤ _; exact Nat.le_of_eq rfl) (hb hby at_230) (fun _ _ => ⟨rfl, rfl, (by decide : 5 + 0 ≤ _), (by decide : 148 + 0 ≤ _)⟩)
  dsimp only [Pt.U, Pt.locs, Pt.cells, Pt.slots] at X40 l40 y40 z40 st40 hQ40
  subst l40 y40 z40
  obtain ⟨rfl, N40q, Qe40⟩ := hQ40
  have N40 := Fr.app N34 N40q
  have ac41 : ∀ t, Steps p.tables e below (T40.setTop (mkF m 233 #[.val (.int sh), .val (.int cA), .val (.int cB), .val (.int cC), .val (.int t1), .val (.int t2), .val (.int al), .val (.ref b2), .val (.int s1), .val (.int l1), .val (.int s2), .val (.int l2), .val (.int s3), .val (.int l3), .val (.int (own_b s1 l1 s2 l2)), .val (.int (own_e1 s1 l1 s2 l2 t1 t2)), .val (.int (own_e3 s1 l1 s2 l2 s3 l3 t1 t2))] [(.int (own_e1 s1 l1 s2 l2 t1 t2))])) t → Steps p.tables e below (s₁.setTop (entryFrame m #[(.int sh), (.int cA), (.int cB), (.int cC), (.int t1), (.int t2)] maxLocals)) t := fun t k => ac39 t (st40.trans k)
  have ac42 : ∀ t, Steps p.tables e below (T40.setTop (mkF m 244 #[.val (.int sh), .val (.int cA), .val (.int cB), .val (.int cC), .val (.int t1), .val (.int t2), .val (.int al), .val (.ref b2), .val (.int s1), .val (.int l1), .val (.int s2), .val (.int l2), .val (.int s3), .val (.int l3), .val (.int (own_b s1 l1 s2 l2)), .val (.int (own_e1 s1 l1 s2 l2 t1 t2)), .val (.int (own_e3 s1 l1 s2 l2 s3 l3 t1 t2))] [(.int l2), (.int s2), (.ref b2)])) t → Steps p.tables e below (s₁.setTop (entryFrame m #[(.int sh), (.int cA), (.int cB), (.int cC), (.int t1), (.int t2)] maxLocals)) t := fun t k => ac41 t (by
      show Steps p.tables e below (T40.setTop (mkF m 233 #[.val (.int sh), .val (.int cA), .val (.int cB), .val (.int cC), .val (.int t1), .val (.int t2), .val (.int al), .val (.ref b2), .val (.int s1), .val (.int l1), .val (.int s2), .val (.int l2), .val (.int s3), .val (.int l3), .val (.int (own_b s1 l1 s2 l2)), .val (.int (own_e1 s1 l1 s2 l2 t1 t2)), .val (.int (own_e3 s1 l1 s2 l2 s3 l3 t1 t2))] [(.int (own_e1 s1 l1 s2 l2 t1 t2))])) _
      refine XS.iload X40.here hx rfl (hb hby at_233) rfl ?_
      show Steps p.tables e below (T40.setTop (mkF m 235 #[.val (.int sh), .val (.int cA), .val (.int cB), .val (.int cC), .val (.int t1), .val (.int t2), .val (.int al), .val (.ref b2), .val (.int s1), .val (.int l1), .val (.int s2), .val (.int l2), .val (.int s3), .val (.int l3), .val (.int (own_b s1 l1 s2 l2)), .val (.int (own_e1 s1 l1 s2 l2 t1 t2)), .val (.int (own_e3 s1 l1 s2 l2 s3 l3 t1 t2))] [(.int (own_e1 s1 l1 s2 l2 t1 t2)), (.int (own_e1 s1 l1 s2 l2 t1 t2))])) _
      refine XS.icmpNo X40.here hx rfl (hb hby at_235) rfl (teq rfl).2 ?_
      show Steps p.tables e below (T40.setTop (mkF m 238 #[.val (.int sh), .val (.int cA), .val (.int cB), .val (.int cC), .val (.int t1), .val (.int t2), .val (.int al), .val (.ref b2), .val (.int s1), .val (.int l1), .val (.int s2), .val (.int l2), .val (.int s3), .val (.int l3), .val (.int (own_b s1 l1 s2 l2)), .val (.int (own_e1 s1 l1 s2 l2 t1 t2)), .val (.int (own_e3 s1 l1 s2 l2 s3 l3 t1 t2))] [])) _
      refine XS.aload X40.here hx rfl (hb hby at_238) rfl rfl ?_
      show Steps p.tables e below (T40.setTop (mkF m 240 #[.val (.int sh), .val (.int cA), .val (.int cB), .val (.int cC), .val (.int t1), .val (.int t2), .val (.int al), .val (.ref b2), .val (.int s1), .val (.int l1), .val (.int s2), .val (.int l2), .val (.int s3), .val (.int l3), .val (.int (own_b s1 l1 s2 l2)), .val (.int (own_e1 s1 l1 s2 l2 t1 t2)), .val (.int (own_e3 s1 l1 s2 l2 s3 l3 t1 t2))] [(.ref b2)])) _
      refine XS.iload X40.here hx rfl (hb hby at_240) rfl ?_
      show Steps p.tables e below (T40.setTop (mkF m 242 #[.val (.int sh), .val (.int cA), .val (.int cB), .val (.int cC), .val (.int t1), .val (.int t2), .val (.int al), .val (.ref b2), .val (.int s1), .val (.int l1), .val (.int s2), .val (.int l2), .val (.int s3), .val (.int l3), .val (.int (own_b s1 l1 s2 l2)), .val (.int (own_e1 s1 l1 s2 l2 t1 t2)), .val (.int (own_e3 s1 l1 s2 l2 s3 l3 t1 t2))] [(.int s2), (.ref b2)])) _
      refine XS.iload X40.here hx rfl (hb hby at_242) rfl ?_
      exact k)
  obtain ⟨cq43, kq43, q43a, q43b, q43c⟩ := isOf hZ Qe40 HB34.1
  obtain ⟨_, _, ⟨T43, L43, k43, n43⟩, -, X43, ⟨Lc43, hQ43, l43, y43, z43⟩, st43⟩ := X40.virtualBack hx (y := (⟨"com/example/boxwise/boxwise/Dfa$Builder", "next", "(II)I"⟩ : MethodName)) (z := (⟨"com/example/boxwise/boxwise/Dfa$Builder", "next", "(II)I"⟩ : MethodName)) hown (mvT hZ (hw _ (List.mem_of_getElem? (i := 54) rfl))) (mvT hZ (hw _ (List.mem_of_getElem? (i := 55) rfl))) (notFace_of_selects (args := #[]) (mvT hZ (hw _ (List.mem_of_getElem? (i := 57) rfl)))) (mvT hZ (hw _ (List.mem_of_getElem? (i := 57) rfl))) (mvT hZ (hw _ (List.mem_of_getElem? (i := 56) rfl))) (by decide) (backOf (W := 0) (rm11 l Z a0 hw [] b2 s2 l2 _ _ _ _ _ _ _ _ (sn2 * an + ln2) t2 T34.heap n0 Z34 HB34 (own_ix hs2 hal hl2 hs23 h8a hl2a).1 (own_ix hs2 hal hl2 hs23 h8a hl2a).2 ((own_at hs2 hl2 hs1 hl1 hs2 hl2 hl2a hl1a hl2a).trans (congrArg Value.int (own_e3_2 s1 l1 s2 l2 t1 t2)))) hZ (hw _ (List.mem_of_getElem? (i := 58) rfl)) (hw _ (List.mem_of_getElem? (i := 2) rfl)) (by decide) (by decide)) q43a q43c (g := (mkF m 244 #[.val (.int sh), .val (.int cA), .val (.int cB), .val (.int cC), .val (.int t1), .val (.int t2), .val (.int al), .val (.ref b2), .val (.int s1), .val (.int l1), .val (.int s2), .val (.int l2), .val (.int s3), .val (.int l3), .val (.int (own_b s1 l1 s2 l2)), .val (.int (own_e1 s1 l1 s2 l2 t1 t2)), .val (.int (own_e3 s1 l1 s2 l2 s3 l3 t1 t2))] [(.int l2), (.int s2), (.ref b2)])) rfl (by rw [hml]; rfl) (Steps.refl _) (argsL := [(.int s2), (.int l2)]) (rest := []) (lenOf pd_3 rfl) rfl (by show 2 * 0 + _ ≤ _; exact Nat.le_of_eq rfl) (hb hby at_244) (fun _ _ => ⟨rfl, Qe40, (by decide : 5 + 0 ≤ _), (by decide : 148 + 0 ≤ _)⟩)
  dsimp only [Pt.U, Pt.locs, Pt.cells, Pt.slots] at X43 l43 y43 z43 st43 hQ43
  subst l43 y43 z43
  obtain ⟨rfl, N43q, Qe43⟩ := hQ43
  have N43 := Fr.app N40 N43q
  have ac44 : ∀ t, Steps p.tables e below (T43.setTop (mkF m 247 #[.val (.int sh), .val (.int cA), .val (.int cB), .val (.int cC), .val (.int t1), .val (.int t2), .val (.int al), .val (.ref b2), .val (.int s1), .val (.int l1), .val (.int s2), .val (.int l2), .val (.int s3), .val (.int l3), .val (.int (own_b s1 l1 s2 l2)), .val (.int (own_e1 s1 l1 s2 l2 t1 t2)), .val (.int (own_e3 s1 l1 s2 l2 s3 l3 t1 t2))] [(.int t2)])) t → Steps p.tables e below (s₁.setTop (entryFrame m #[(.int sh), (.int cA), (.int cB), (.int cC), (.int t1), (.int t2)] maxLocals)) t := fun t k => ac42 t (st43.trans k)
  have ac45 : ∀ t, Steps p.tables e below (T43.setTop (mkF m 258 #[.val (.int sh), .val (.int cA), .val (.int cB), .val (.int cC), .val (.int t1), .val (.int t2), .val (.int al), .val (.ref b2), .val (.int s1), .val (.int l1), .val (.int s2), .val (.int l2), .val (.int s3), .val (.int l3), .val (.int (own_b s1 l1 s2 l2)), .val (.int (own_e1 s1 l1 s2 l2 t1 t2)), .val (.int (own_e3 s1 l1 s2 l2 s3 l3 t1 t2))] [(.int l3), (.int s3), (.ref b2)])) t → Steps p.tables e below (s₁.setTop (entryFrame m #[(.int sh), (.int cA), (.int cB), (.int cC), (.int t1), (.int t2)] maxLocals)) t := fun t k => ac44 t (by
      show Steps p.tables e below (T43.setTop (mkF m 247 #[.val (.int sh), .val (.int cA), .val (.int cB), .val (.int cC), .val (.int t1), .val (.int t2), .val (.int al), .val (.ref b2), .val (.int s1), .val (.int l1), .val (.int s2), .val (.int l2), .val (.int s3), .val (.int l3), .val (.int (own_b s1 l1 s2 l2)), .val (.int (own_e1 s1 l1 s2 l2 t1 t2)), .val (.int (own_e3 s1 l1 s2 l2 s3 l3 t1 t2))] [(.int t2)])) _
      refine XS.iload X43.here hx rfl (hb hby at_247) rfl ?_
      show Steps p.tables e below (T43.setTop (mkF m 249 #[.val (.int sh), .val (.int cA), .val (.int cB), .val (.int cC), .val (.int t1), .val (.int t2), .val (.int al), .val (.ref b2), .val (.int s1), .val (.int l1), .val (.int s2), .val (.int l2), .val (.int s3), .val (.int l3), .val (.int (own_b s1 l1 s2 l2)), .val (.int (own_e1 s1 l1 s2 l2 t1 t2)), .val (.int (own_e3 s1 l1 s2 l2 s3 l3 t1 t2))] [(.int t2), (.int t2)])) _
      refine XS.icmpNo X43.here hx rfl (hb hby at_249) rfl (teq rfl).2 ?_
      show Steps p.tables e below (T43.setTop (mkF m 252 #[.val (.int sh), .val (.int cA), .val (.int cB), .val (.int cC), .val (.int t1), .val (.int t2), .val (.int al), .val (.ref b2), .val (.int s1), .val (.int l1), .val (.int s2), .val (.int l2), .val (.int s3), .val (.int l3), .val (.int (own_b s1 l1 s2 l2)), .val (.int (own_e1 s1 l1 s2 l2 t1 t2)), .val (.int (own_e3 s1 l1 s2 l2 s3 l3 t1 t2))] [])) _
      refine XS.aload X43.here hx rfl (hb hby at_252) rfl rfl ?_
      show Steps p.tables e below (T43.setTop (mkF m 254 #[.val (.int sh), .val (.int cA), .val (.int cB), .val (.int cC), .val (.int t1), .val (.int t2), .val (.int al), .val (.ref b2), .val (.int s1), .val (.int l1), .val (.int s2), .val (.int l2), .val (.int s3), .val (.int l3), .val (.int (own_b s1 l1 s2 l2)), .val (.int (own_e1 s1 l1 s2 l2 t1 t2)), .val (.int (own_e3 s1 l1 s2 l2 s3 l3 t1 t2))] [(.ref b2)])) _
      refine XS.iload X43.here hx rfl (hb hby at_254) rfl ?_
      show Steps p.tables e below (T43.setTop (mkF m 256 #[.val (.int sh), .val (.int cA), .val (.int cB), .val (.int cC), .val (.int t1), .val (.int t2), .val (.int al), .val (.ref b2), .val (.int s1), .val (.int l1), .val (.int s2), .val (.int l2), .val (.int s3), .val (.int l3), .val (.int (own_b s1 l1 s2 l2)), .val (.int (own_e1 s1 l1 s2 l2 t1 t2)), .val (.int (own_e3 s1 l1 s2 l2 s3 l3 t1 t2))] [(.int s3), (.ref b2)])) _
      refine XS.iload X43.here hx rfl (hb hby at_256) rfl ?_
      exact k)
  obtain ⟨cq46, kq46, q46a, q46b, q46c⟩ := isOf hZ Qe43 HB34.1
  obtain ⟨_, _, ⟨T46, L46, k46, n46⟩, -, X46, ⟨Lc46, hQ46, l46, y46, z46⟩, st46⟩ := X43.virtualBack hx (y := (⟨"com/example/boxwise/boxwise/Dfa$Builder", "next", "(II)I"⟩ : MethodName)) (z := (⟨"com/example/boxwise/boxwise/Dfa$Builder", "next", "(II)I"⟩ : MethodName)) hown (mvT hZ (hw _ (List.mem_of_getElem? (i := 54) rfl))) (mvT hZ (hw _ (List.mem_of_getElem? (i := 55) rfl))) (notFace_of_selects (args := #[]) (mvT hZ (hw _ (List.mem_of_getElem? (i := 57) rfl)))) (mvT hZ (hw _ (List.mem_of_getElem? (i := 57) rfl))) (mvT hZ (hw _ (List.mem_of_getElem? (i := 56) rfl))) (by decide) (backOf (W := 0) (rm11 l Z a0 hw [] b2 s3 l3 _ _ _ _ _ _ _ _ (sn3 * an + ln3) (own_e3 s1 l1 s2 l2 s3 l3 t1 t2) T34.heap n0 Z34 HB34 (own_ix hs3 hal hl3 hs33 h8a hl3a).1 (own_ix hs3 hal hl3 hs33 h8a hl3a).2 (own_at hs3 hl3 hs1 hl1 hs2 hl2 hl3a hl1a hl2a)) hZ (hw _ (List.mem_of_getElem? (i := 58) rfl)) (hw _ (List.mem_of_getElem? (i := 2) rfl)) (by decide) (by decide)) q46a q46c (g := (mkF m 258 #[.val (.int sh), .val (.int cA), .val (.int cB), .val (.int cC), .val (.int t1), .val (.int t2), .val (.int al), .val (.ref b2), .val (.int s1), .val (.int l1), .val (.int s2), .val (.int l2), .val (.int s3), .val (.int l3), .val (.int (own_b s1 l1 s2 l2)), .val (.int (own_e1 s1 l1 s2 l2 t1 t2)), .val (.int (own_e3 s1 l1 s2 l2 s3 l3 t1 t2))] [(.int l3), (.int s3), (.ref b2)])) rfl (by rw [hml]; rfl) (Steps.refl _) (argsL := [(.int s3), (.int l3)]) (rest := []) (lenOf pd_3 rfl) rfl (by show 2 * 0 + _ ≤ _; exact Nat.le_of_eq rfl) (hb hby at_258) (fun _ _ => ⟨rfl, Qe43, (by decide : 5 + 0 ≤ _), (by decide : 148 + 0 ≤ _)⟩)
  dsimp only [Pt.U, Pt.locs, Pt.cells, Pt.slots] at X46 l46 y46 z46 st46 hQ46
  subst l46 y46 z46
  obtain ⟨rfl, N46q, Qe46⟩ := hQ46
  have N46 := Fr.app N43 N46q
  have ac47 : ∀ t, Steps p.tables e below (T46.setTop (mkF m 261 #[.val (.int sh), .val (.int cA), .val (.int cB), .val (.int cC), .val (.int t1), .val (.int t2), .val (.int al), .val (.ref b2), .val (.int s1), .val (.int l1), .val (.int s2), .val (.int l2), .val (.int s3), .val (.int l3), .val (.int (own_b s1 l1 s2 l2)), .val (.int (own_e1 s1 l1 s2 l2 t1 t2)), .val (.int (own_e3 s1 l1 s2 l2 s3 l3 t1 t2))] [(.int (own_e3 s1 l1 s2 l2 s3 l3 t1 t2))])) t → Steps p.tables e below (s₁.setTop (entryFrame m #[(.int sh), (.int cA), (.int cB), (.int cC), (.int t1), (.int t2)] maxLocals)) t := fun t k => ac45 t (st46.trans k)
  have ac48 : ∀ t, Steps p.tables e below (T46.setTop (mkF m 271 #[.val (.int sh), .val (.int cA), .val (.int cB), .val (.int cC), .val (.int t1), .val (.int t2), .val (.int al), .val (.ref b2), .val (.int s1), .val (.int l1), .val (.int s2), .val (.int l2), .val (.int s3), .val (.int l3), .val (.int (own_b s1 l1 s2 l2)), .val (.int (own_e1 s1 l1 s2 l2 t1 t2)), .val (.int (own_e3 s1 l1 s2 l2 s3 l3 t1 t2))] [(.int (1 : Int32))])) t → Steps p.tables e below (s₁.setTop (entryFrame m #[(.int sh), (.int cA), (.int cB), (.int cC), (.int t1), (.int t2)] maxLocals)) t := fun t k => ac47 t (by
      show Steps p.tables e below (T46.setTop (mkF m 261 #[.val (.int sh), .val (.int cA), .val (.int cB), .val (.int cC), .val (.int t1), .val (.int t2), .val (.int al), .val (.ref b2), .val (.int s1), .val (.int l1), .val (.int s2), .val (.int l2), .val (.int s3), .val (.int l3), .val (.int (own_b s1 l1 s2 l2)), .val (.int (own_e1 s1 l1 s2 l2 t1 t2)), .val (.int (own_e3 s1 l1 s2 l2 s3 l3 t1 t2))] [(.int (own_e3 s1 l1 s2 l2 s3 l3 t1 t2))])) _
      refine XS.iload X46.here hx rfl (hb hby at_261) rfl ?_
      show Steps p.tables e below (T46.setTop (mkF m 263 #[.val (.int sh), .val (.int cA), .val (.int cB), .val (.int cC), .val (.int t1), .val (.int t2), .val (.int al), .val (.ref b2), .val (.int s1), .val (.int l1), .val (.int s2), .val (.int l2), .val (.int s3), .val (.int l3), .val (.int (own_b s1 l1 s2 l2)), .val (.int (own_e1 s1 l1 s2 l2 t1 t2)), .val (.int (own_e3 s1 l1 s2 l2 s3 l3 t1 t2))] [(.int (own_e3 s1 l1 s2 l2 s3 l3 t1 t2)), (.int (own_e3 s1 l1 s2 l2 s3 l3 t1 t2))])) _
      refine XS.icmpNo X46.here hx rfl (hb hby at_263) rfl (teq rfl).2 ?_
      show Steps p.tables e below (T46.setTop (mkF m 266 #[.val (.int sh), .val (.int cA), .val (.int cB), .val (.int cC), .val (.int t1), .val (.int t2), .val (.int al), .val (.ref b2), .val (.int s1), .val (.int l1), .val (.int s2), .val (.int l2), .val (.int s3), .val (.int l3), .val (.int (own_b s1 l1 s2 l2)), .val (.int (own_e1 s1 l1 s2 l2 t1 t2)), .val (.int (own_e3 s1 l1 s2 l2 s3 l3 t1 t2))] [])) _
      refine XS.iconst X46.here hx rfl (hb hby at_266) ?_
      show Steps p.tables e below (T46.setTop (mkF m 267 #[.val (.int sh), .val (.int cA), .val (.int cB), .val (.int cC), .val (.int t1), .val (.int t2), .val (.int al), .val (.ref b2), .val (.int s1), .val (.int l1), .val (.int s2), .val (.int l2), .val (.int s3), .val (.int l3), .val (.int (own_b s1 l1 s2 l2)), .val (.int (own_e1 s1 l1 s2 l2 t1 t2)), .val (.int (own_e3 s1 l1 s2 l2 s3 l3 t1 t2))] [(.int (1 : Int32))])) _
      refine XS.goto X46.here hx rfl (pc0 := 267) (pc' := 271) rfl (hb hby at_267) (by decide) (by decide) ?_
      exact k)
  obtain ⟨fs, hr, hrun, hended, hW, hsame⟩ := X46.leave (v := some (.int (1 : Int32))) (fun h => by rw [Bd.returns] at h; cases h) (BodyLoose.notSynchronized Bd)
  refine ⟨_, _, ac48 _ ?_, hrun, hended, _, _, rfl, ?_, ⟨_, rfl⟩, hW, hsame.mono (by decide) (by decide)⟩
  · show Steps p.tables e below (T46.setTop (mkF m 271 #[.val (.int sh), .val (.int cA), .val (.int cB), .val (.int cC), .val (.int t1), .val (.int t2), .val (.int al), .val (.ref b2), .val (.int s1), .val (.int l1), .val (.int s2), .val (.int l2), .val (.int s3), .val (.int l3), .val (.int (own_b s1 l1 s2 l2)), .val (.int (own_e1 s1 l1 s2 l2 t1 t2)), .val (.int (own_e3 s1 l1 s2 l2 s3 l3 t1 t2))] [(.int (1 : Int32))])) _
    exact retN X46 hx (t := .boolean) Bd.returns (by simp) (hb hby at_271) hr
  · show Q0 Z sh cA cB cC t1 t2 h0 n0 _ T46.heap _
    rw [Qe46]
    exact ⟨rfl, N46⟩
set_option maxRecDepth 65536 in
set_option maxHeartbeats 40000000 in
theorem comes_1 {Post : Tables → Env → Array Value → State → Outcome → State → Prop} (hpost : ∀ tb e args s v u, (limb_1_1.after args s (.returned v) u = true ∧ limb_1_2.after args s (.returned v) u = true ∧ True) → FrameEnd s (.returned v) u (Jvm.fieldLocs frame_1_writes args s ++ Jvm.arrayLocs frame_1_arrays args s ++ Jvm.staticLocs frame_1_statics s) 24 256 → Post tb e args s (.returned v) u) :
    ArmFor flags0 classFile x code maxLocals ret World_1 tables_1 room_1 Calls_1 rest_1 Pre_1 Post := by
  intro l hfl _ _ p e ha hc hk s m args below hf hA hF happ hP
  obtain ⟨hcalls, hrest, hpre⟩ := hP
  obtain ⟨-, -, -, hnamed, -, -, -, hat⟩ := (Spec.applies_iff hf).mp happ
  obtain ⟨hg, hn⟩ := and_e (Cond.before_iff.mp (show (Jvm.Cond.and given_1 narrow_1).before args s = true from hpre))
  obtain ⟨hcnt, hk0⟩ := and_e hg
  obtain ⟨g0, hk1⟩ := and_e hk0
  obtain ⟨g1, hk2⟩ := and_e hk1
  obtain ⟨g2, hk3⟩ := and_e hk2
  obtain ⟨g3, hk4⟩ := and_e hk3
  obtain ⟨g4, hk5⟩ := and_e hk4
  have g5 := hk5
  obtain ⟨w0, w1, w2, w3, w4, w5, rfl⟩ : ∃ w0 w1 w2 w3 w4 w5 : Value, args = #[w0, w1, w2, w3, w4, w5] := by
    have hs : args.size = 6 := by simpa [Cond.value, given_1] using hcnt
    obtain ⟨L⟩ := args
    match L, hs with
    | [w0, w1, w2, w3, w4, w5], _ => exact ⟨w0, w1, w2, w3, w4, w5, rfl⟩
  have hw := fun d (hd : d ∈ tables_1) => atoms_spec (ws := Jvm.Cond.code x code maxLocals ret :: tables_1) hat d (List.mem_cons_of_mem _ hd)
  have hfit : Fit s := fun {y c} hc i hi => by
    obtain ⟨ha, rfl⟩ := Array.getElem?_eq_some_iff.mp hc
    have q := List.all_eq_true.mp ((Array.all_eq_true_iff_forall_mem.mp hF) _ (Array.getElem_mem ha)) i (List.mem_range.mpr hi)
    simpa [Array.getElem?_eq_getElem hi] using q
  obtain ⟨i0, ei0⟩ := is_v g0
  obtain rfl : w0 = (.int i0) := Option.some.inj ei0
  obtain ⟨i1, ei1⟩ := is_v g1
  obtain rfl : w1 = (.int i1) := Option.some.inj ei1
  obtain ⟨i2, ei2⟩ := is_v g2
  obtain rfl : w2 = (.int i2) := Option.some.inj ei2
  obtain ⟨i3, ei3⟩ := is_v g3
  obtain rfl : w3 = (.int i3) := Option.some.inj ei3
  obtain ⟨i4, ei4⟩ := is_v g4
  obtain rfl : w4 = (.int i4) := Option.some.inj ei4
  obtain ⟨i5, ei5⟩ := is_v g5
  obtain rfl : w5 = (.int i5) := Option.some.inj ei5
  obtain ⟨n, o, h1, h2, h3, _, L, rfl, ⟨rfl, N⟩, hq⟩ := rm0 l s _ hw tables_1 i0 i1 i2 i3 i4 i5  s.heap s.heap.size (Nat.le_refl _)  p e ha hc hk s m _ below hf ((Spec.applies_iff_loose hf).mp happ).1 ⟨rfl, State.Warmed39.refl s, rfl⟩ trivial
  refine ⟨n, _, h1, h2, h3, hpost _ _ _ _ _ _ ⟨Cond.after_iff.mpr rfl, Cond.after_iff.mpr (eq_i res_at (Term.int_eval (1)) rfl), trivial⟩ ⟨hq.1, hq.2.1, (hq.2.2.sift fun y hy => Or.inr (N y hy)).mono (by decide) (by decide)⟩⟩
theorem main_1_1 : Claimed_1_1 := comes_1 fun _ _ _ _ _ _ h hF => ⟨h.1, hF⟩
theorem main_1_2 : Claimed_1_2 := comes_1 fun _ _ _ _ _ _ h hF => ⟨h.2.1, hF⟩
end Jvm.Pilot.@@N@@
namespace Jvm.Pilot.@@N@@
open Jvm Jvm.ClassFile Sem Op Lib Jvm.Free Jvm.Stand Jvm.Pilot.@@N@@.Jvm.D
/-! MADE BY PROGRAM (witnessworld.py) out of the Statement's table words and the real class files: 14 classes; the members and pool entries that the words name. The judged class is class 1, her method 1. -/
namespace start1
open Jvm.ClassFile
def u (s : String) : CpInfo := .utf8 (stringToUtf16 s)
/-- a pool by its gaps: so many unusable entries, then the entry; so many at the end -/
def gap : Nat → List CpInfo → List CpInfo
  | 0, r => r
  | n + 1, r => .unusable :: gap n r
def poolList (es : List (Nat × CpInfo)) (last : Nat) : List CpInfo := es.foldr (fun e r => gap e.1 (e.2 :: r)) (gap last [])
def pool (es : List (Nat × CpInfo)) (last : Nat) : Array CpInfo := ⟨poolList es last⟩
def fileOf (pool : Array CpInfo) (this : Nat) (attrs : Array Attribute := #[]) (ms : Array MethodInfo := #[]) (fl : Nat := 33) (sup : Nat := 0) (ifs : Array Nat := #[]) (fds : Array FieldInfo := #[]) : ClassFile where
  minorVersion := 0
  majorVersion := 65
  constantPool := pool
  accessFlags := fl
  thisClass := this
  superClass := sup
  interfaces := ifs
  fields := fds
  methods := ms
  attributes := attrs
def plain (name : String) (sup : Option ClassId) : Class where
  name := name
  kind := .ordinary
  loader := none
  accessFlags := 33
  super := sup
  interfaces := #[]
  cf := none
  fields := #[]
  methods := #[]
  instanceTypes := #[]
  staticTypes := #[]
  resolved := #[]
  callSites := []
  init := .initialized
  statics := none
  mirror := none

def pool0 : Array CpInfo := pool [(5, u "<init>"), (0, u "()V"), (1, .class_ 10), (1, u "java/lang/Object")] 113

def k0c0 : Code := { maxStack := 0, maxLocals := 1, code := object_method_1_code, exceptionTable := #[], attributes := #[] }
def k0m0 : Method := { name := "<init>", desc := "()V", sig := { parameters := [], returnType := none }, accessFlags := 1, code := some k0c0 }
/-- java/lang/Object -/
def k0 : Class := { plain "java/lang/Object" none with
  accessFlags := 33
  interfaces := #[]
  cf := some (fileOf pool0 8 #[] #[{ accessFlags := 1, nameIndex := 5, descriptorIndex := 6, attributes := #[] }] 33 0 #[] #[])
  fields := #[]
  methods := #[k0m0]
  instanceTypes := #[]
  staticTypes := #[]
  resolved := Array.replicate 124 none
  statics := none }

def pool1 : Array CpInfo := pool [(2, .class_ 4), (1, u "java/lang/Object"), (0, u "<init>"), (0, u "()V"), (0, .class_ 8), (0, u "com/example/boxwise/boxwise/Dfa$Builder"), (0, .methodref 7 10), (0, .nameAndType 5 11), (0, u "(I)V"), (0, .methodref 7 13), (0, .nameAndType 14 15), (0, u "addState"), (0, u "(Z)I"), (0, .integer 2147483647), (0, .methodref 7 18), (0, .nameAndType 19 20), (0, u "setNext"), (0, u "(III)V"), (0, .methodref 7 22), (0, .nameAndType 23 24), (0, u "next"), (0, u "(II)I"), (0, .class_ 26), (0, u "com/example/boxwise/boxwise/BuilderSetNextPinLaw"), (2, u "law"), (0, u "(IIIIII)Z")] 7

def k1m0 : Method := { name := "<init>", desc := "()V", sig := { parameters := [], returnType := none }, accessFlags := 1, code := none }
def k1c1 : Code := { maxStack := 4, maxLocals := 17, code := code, exceptionTable := #[], attributes := #[] }
def k1m1 : Method := { name := "law", desc := "(IIIIII)Z", sig := { parameters := [.int, .int, .int, .int, .int, .int], returnType := some .boolean }, accessFlags := 9, code := some k1c1 }
/-- com/example/boxwise/boxwise/BuilderSetNextPinLaw -/
def k1 : Class := { plain "com/example/boxwise/boxwise/BuilderSetNextPinLaw" (some 0) with
  accessFlags := 49
  interfaces := #[]
  cf := some (fileOf pool1 25 #[] #[{ accessFlags := 1, nameIndex := 5, descriptorIndex := 6, attributes := #[] }, { accessFlags := 9, nameIndex := 29, descriptorIndex := 30, attributes := #[] }] 49 2 #[] #[])
  fields := #[]
  methods := #[k1m0, k1m1]
  instanceTypes := #[]
  staticTypes := #[]
  resolved := Array.replicate 38 none
  statics := none }

def pool2 : Array CpInfo := pool [(1, .class_ 2), (0, u "com/example/boxwise/boxwise/Dfa"), (0, .methodref 4 5), (0, .class_ 6), (0, .nameAndType 7 8), (0, u "java/lang/Object"), (0, u "<init>"), (0, u "()V"), (0, .fieldref 10 11), (0, .class_ 12), (0, .nameAndType 13 14), (0, u "com/example/boxwise/boxwise/Dfa$Builder"), (0, u "next"), (0, u "[I"), (0, .fieldref 10 16), (0, .nameAndType 17 18), (0, u "accepting"), (0, u "[Z"), (0, .fieldref 10 20), (0, .nameAndType 21 22), (0, u "alphabetSize"), (0, u "I"), (0, .fieldref 10 24), (0, .nameAndType 25 22), (0, u "stateCount"), (0, .methodref 27 28), (0, .class_ 29), (0, .nameAndType 30 31), (0, u "java/lang/Math"), (0, u "max"), (0, u "(II)I"), (0, .methodref 33 34), (0, .class_ 35), (0, .nameAndType 36 37), (0, u "java/util/Arrays"), (0, u "copyOf"), (0, u "([ZI)[Z"), (0, .methodref 33 39), (0, .nameAndType 36 40), (0, u "([II)[I"), (0, .methodref 33 42), (0, .nameAndType 43 44), (0, u "fill"), (0, u "([IIII)V"), (2, u "addState"), (0, u "(Z)I"), (17, u "(I)V"), (4, u "setNext"), (0, u "(III)V")] 24

def k2c0 : Code := { maxStack := 2, maxLocals := 2, code := prog_18_method_1_code, exceptionTable := #[], attributes := #[] }
def k2m0 : Method := { name := "<init>", desc := "(I)V", sig := { parameters := [.int], returnType := none }, accessFlags := 0, code := some k2c0 }
def k2c1 : Code := { maxStack := 4, maxLocals := 4, code := prog_18_method_2_code, exceptionTable := #[], attributes := #[] }
def k2m1 : Method := { name := "addState", desc := "(Z)I", sig := { parameters := [.boolean], returnType := some .int }, accessFlags := 0, code := some k2c1 }
def k2c2 : Code := { maxStack := 3, maxLocals := 3, code := prog_18_method_4_code, exceptionTable := #[], attributes := #[] }
def k2m2 : Method := { name := "next", desc := "(II)I", sig := { parameters := [.int, .int], returnType := some .int }, accessFlags := 0, code := some k2c2 }
def k2c3 : Code := { maxStack := 3, maxLocals := 4, code := prog_18_method_5_code, exceptionTable := #[], attributes := #[] }
def k2m3 : Method := { name := "setNext", desc := "(III)V", sig := { parameters := [.int, .int, .int], returnType := none }, accessFlags := 0, code := some k2c3 }
/-- com/example/boxwise/boxwise/Dfa$Builder -/
def k2 : Class := { plain "com/example/boxwise/boxwise/Dfa$Builder" (some 0) with
  accessFlags := 48
  interfaces := #[]
  cf := some (fileOf pool2 10 #[.nestHost 1] #[{ accessFlags := 0, nameIndex := 7, descriptorIndex := 66, attributes := #[] }, { accessFlags := 0, nameIndex := 47, descriptorIndex := 48, attributes := #[] }, { accessFlags := 0, nameIndex := 13, descriptorIndex := 31, attributes := #[] }, { accessFlags := 0, nameIndex := 71, descriptorIndex := 72, attributes := #[] }] 48 4 #[] #[{ accessFlags := 18, nameIndex := 21, descriptorIndex := 22, attributes := #[] }, { accessFlags := 2, nameIndex := 13, descriptorIndex := 14, attributes := #[] }, { accessFlags := 2, nameIndex := 17, descriptorIndex := 18, attributes := #[] }, { accessFlags := 2, nameIndex := 25, descriptorIndex := 22, attributes := #[] }])
  fields := #[{ name := "alphabetSize", type := .int, accessFlags := 18, slot := 0, constantValue := 0 }, { name := "next", type := (.array .int), accessFlags := 2, slot := 1, constantValue := 0 }, { name := "accepting", type := (.array .boolean), accessFlags := 2, slot := 2, constantValue := 0 }, { name := "stateCount", type := .int, accessFlags := 2, slot := 3, constantValue := 0 }]
  methods := #[k2m0, k2m1, k2m2, k2m3]
  instanceTypes := #[.int, (.array .int), (.array .boolean), .int]
  staticTypes := #[]
  resolved := Array.replicate 97 none
  statics := none }

def pool3 : Array CpInfo := pool [(1, .class_ 2), (0, u "java/lang/Math"), (1, .class_ 6), (1, u "java/lang/Object"), (0, u "<init>"), (0, u "()V"), (89, .class_ 100), (1, u "java/lang/Math$RandomNumberGeneratorHolder"), (71, u "negativeZeroFloatBits"), (0, u "J"), (2, u "negativeZeroDoubleBits"), (21, u "max"), (2, u "min"), (43, u "$assertionsDisabled"), (0, u "Z"), (88, u "(II)I"), (2, u "twoToTheDoubleScaleDown"), (0, u "D"), (4, u "twoToTheDoubleScaleUp"), (9, u "E"), (3, u "PI"), (2, u "TAU"), (2, u "DEGREES_TO_RADIANS"), (0, u "RADIANS_TO_DEGREES")] 94

def k3m0 : Method := { name := "<init>", desc := "()V", sig := { parameters := [], returnType := none }, accessFlags := 2, code := none }
def k3c1 : Code := { maxStack := 2, maxLocals := 2, code := jdk_29_method_65_code, exceptionTable := #[], attributes := #[] }
def k3m1 : Method := { name := "max", desc := "(II)I", sig := { parameters := [.int, .int], returnType := some .int }, accessFlags := 9, code := some k3c1 }
def k3c2 : Code := { maxStack := 2, maxLocals := 2, code := jdk_29_method_69_code, exceptionTable := #[], attributes := #[] }
def k3m2 : Method := { name := "min", desc := "(II)I", sig := { parameters := [.int, .int], returnType := some .int }, accessFlags := 9, code := some k3c2 }
/-- java/lang/Math -/
def k3 : Class := { plain "java/lang/Math" (some 0) with
  accessFlags := 49
  interfaces := #[]
  cf := some (fileOf pool3 1 #[.nestMembers #[98]] #[{ accessFlags := 2, nameIndex := 7, descriptorIndex := 8, attributes := #[] }, { accessFlags := 9, nameIndex := 198, descriptorIndex := 335, attributes := #[] }, { accessFlags := 9, nameIndex := 201, descriptorIndex := 335, attributes := #[] }] 49 4 #[] #[{ accessFlags := 25, nameIndex := 354, descriptorIndex := 339, attributes := #[] }, { accessFlags := 25, nameIndex := 358, descriptorIndex := 339, attributes := #[] }, { accessFlags := 25, nameIndex := 361, descriptorIndex := 339, attributes := #[] }, { accessFlags := 26, nameIndex := 364, descriptorIndex := 339, attributes := #[] }, { accessFlags := 26, nameIndex := 365, descriptorIndex := 339, attributes := #[] }, { accessFlags := 26, nameIndex := 172, descriptorIndex := 173, attributes := #[] }, { accessFlags := 26, nameIndex := 176, descriptorIndex := 173, attributes := #[] }, { accessFlags := 8, nameIndex := 344, descriptorIndex := 339, attributes := #[] }, { accessFlags := 8, nameIndex := 338, descriptorIndex := 339, attributes := #[] }, { accessFlags := 4120, nameIndex := 245, descriptorIndex := 246, attributes := #[] }])
  fields := #[{ name := "E", type := .double, accessFlags := 25, slot := 0, constantValue := 0 }, { name := "PI", type := .double, accessFlags := 25, slot := 1, constantValue := 0 }, { name := "TAU", type := .double, accessFlags := 25, slot := 2, constantValue := 0 }, { name := "DEGREES_TO_RADIANS", type := .double, accessFlags := 26, slot := 3, constantValue := 0 }, { name := "RADIANS_TO_DEGREES", type := .double, accessFlags := 26, slot := 4, constantValue := 0 }, { name := "negativeZeroFloatBits", type := .long, accessFlags := 26, slot := 5, constantValue := 0 }, { name := "negativeZeroDoubleBits", type := .long, accessFlags := 26, slot := 6, constantValue := 0 }, { name := "twoToTheDoubleScaleUp", type := .double, accessFlags := 8, slot := 7, constantValue := 0 }, { name := "twoToTheDoubleScaleDown", type := .double, accessFlags := 8, slot := 8, constantValue := 0 }, { name := "$assertionsDisabled", type := .boolean, accessFlags := 4120, slot := 9, constantValue := 0 }]
  methods := #[k3m0, k3m1, k3m2]
  instanceTypes := #[]
  staticTypes := #[.double, .double, .double, .double, .double, .long, .long, .double, .double, .boolean]
  resolved := Array.replicate 460 none
  statics := none }

def pool4 : Array CpInfo := pool [(2, .class_ 4), (1, u "java/lang/Object"), (0, u "<init>"), (0, u "()V"), (5, u "([IIII)V"), (0, .methodref 14 15), (0, .class_ 16), (0, .nameAndType 17 18), (0, u "java/util/Arrays"), (0, u "rangeCheck"), (0, u "(III)V"), (55, .class_ 76), (1, u "java/util/Arrays$NaturalOrder"), (36, .class_ 115), (1, u "java/util/Arrays$LegacyMergeSort"), (1, u "Z"), (32, .methodref 151 152), (0, .class_ 153), (0, .nameAndType 154 155), (0, u "java/lang/System"), (0, u "arraycopy"), (0, u "(Ljava/lang/Object;ILjava/lang/Object;II)V"), (146, u "copyOf"), (1, .methodref 305 306), (0, .class_ 307), (0, .nameAndType 308 309), (0, u "java/lang/Math"), (0, u "min"), (0, u "(II)I"), (65, .class_ 376), (0, u "java/util/Arrays$ArrayList"), (68, u "$assertionsDisabled"), (269, u "MIN_ARRAY_SORT_GRAN"), (0, u "I"), (2, u "INSERTIONSORT_THRESHOLD"), (120, u "fill"), (30, u "([II)[I"), (4, u "([ZI)[Z"), (98, .class_ 976), (0, u "java/util/Arrays$ArrayItr")] 52

def k4m0 : Method := { name := "<init>", desc := "()V", sig := { parameters := [], returnType := none }, accessFlags := 2, code := none }
def k4c1 : Code := { maxStack := 4, maxLocals := 3, code := jdk_65_method_30_code, exceptionTable := #[], attributes := #[] }
def k4m1 : Method := { name := "rangeCheck", desc := "(III)V", sig := { parameters := [.int, .int, .int], returnType := none }, accessFlags := 8, code := some k4c1 }
def k4c2 : Code := { maxStack := 3, maxLocals := 5, code := jdk_65_method_104_code, exceptionTable := #[], attributes := #[] }
def k4m2 : Method := { name := "fill", desc := "([IIII)V", sig := { parameters := [(.array .int), .int, .int, .int], returnType := none }, accessFlags := 9, code := some k4c2 }
def k4c3 : Code := { maxStack := 6, maxLocals := 3, code := jdk_65_method_123_code, exceptionTable := #[], attributes := #[] }
def k4m3 : Method := { name := "copyOf", desc := "([II)[I", sig := { parameters := [(.array .int), .int], returnType := some (.array .int) }, accessFlags := 9, code := some k4c3 }
def k4c4 : Code := { maxStack := 6, maxLocals := 3, code := jdk_65_method_128_code, exceptionTable := #[], attributes := #[] }
def k4m4 : Method := { name := "copyOf", desc := "([ZI)[Z", sig := { parameters := [(.array .boolean), .int], returnType := some (.array .boolean) }, accessFlags := 9, code := some k4c4 }
/-- java/util/Arrays -/
def k4 : Class := { plain "java/util/Arrays" (some 0) with
  accessFlags := 49
  interfaces := #[]
  cf := some (fileOf pool4 14 #[.nestMembers #[975, 375, 113, 74]] #[{ accessFlags := 2, nameIndex := 5, descriptorIndex := 6, attributes := #[] }, { accessFlags := 8, nameIndex := 17, descriptorIndex := 18, attributes := #[] }, { accessFlags := 9, nameIndex := 840, descriptorIndex := 12, attributes := #[] }, { accessFlags := 9, nameIndex := 302, descriptorIndex := 871, attributes := #[] }, { accessFlags := 9, nameIndex := 302, descriptorIndex := 876, attributes := #[] }] 49 2 #[] #[{ accessFlags := 26, nameIndex := 715, descriptorIndex := 716, attributes := #[] }, { accessFlags := 26, nameIndex := 719, descriptorIndex := 716, attributes := #[] }, { accessFlags := 4120, nameIndex := 445, descriptorIndex := 117, attributes := #[] }])
  fields := #[{ name := "MIN_ARRAY_SORT_GRAN", type := .int, accessFlags := 26, slot := 0, constantValue := 0 }, { name := "INSERTIONSORT_THRESHOLD", type := .int, accessFlags := 26, slot := 1, constantValue := 0 }, { name := "$assertionsDisabled", type := .boolean, accessFlags := 4120, slot := 2, constantValue := 0 }]
  methods := #[k4m0, k4m1, k4m2, k4m3, k4m4]
  instanceTypes := #[]
  staticTypes := #[.int, .int, .boolean]
  resolved := Array.replicate 1029 none
  statics := none }

def pool5 : Array CpInfo := pool [(2, .class_ 4), (1, u "java/lang/Object"), (0, u "<init>"), (0, u "()V"), (1, .class_ 10), (1, u "java/lang/System"), (0, u "allowSecurityManager"), (0, u "I"), (16, u "cons"), (0, u "Ljava/io/Console;"), (77, .class_ 110), (1, u "java/lang/System$CallersHolder"), (43, u "initialErrStream"), (0, u "Ljava/io/PrintStream;"), (19, u "security"), (0, u "Ljava/lang/SecurityManager;"), (31, .class_ 209), (0, u "java/lang/System$1"), (7, u "props"), (0, u "Ljava/util/Properties;"), (2, u "lineSeparator"), (0, u "Ljava/lang/String;"), (96, .class_ 321), (1, u "java/lang/System$LoggerFinder"), (5, .class_ 328), (0, u "java/lang/System$Logger"), (67, u "err"), (2, u "out"), (91, u "notSupportedJnuEncoding"), (15, u "in"), (17, u "initialIn"), (0, u "Ljava/io/InputStream;"), (35, u "bootLayer"), (0, u "Ljava/lang/ModuleLayer;"), (99, .class_ 664), (0, u "java/lang/System$2"), (9, u "NEVER"), (2, u "MAYBE"), (49, u "arraycopy"), (0, u "(Ljava/lang/Object;ILjava/lang/Object;II)V"), (72, .class_ 802), (0, u "java/lang/System$Logger$Level")] 31

def k5m0 : Method := { name := "<init>", desc := "()V", sig := { parameters := [], returnType := none }, accessFlags := 2, code := none }
def k5m1 : Method := { name := "arraycopy", desc := "(Ljava/lang/Object;ILjava/lang/Object;II)V", sig := { parameters := [(.object "java/lang/Object"), .int, (.object "java/lang/Object"), .int, .int], returnType := none }, accessFlags := 265, code := none }
/-- java/lang/System -/
def k5 : Class := { plain "java/lang/System" (some 0) with
  accessFlags := 49
  interfaces := #[]
  cf := some (fileOf pool5 8 #[.nestMembers #[319, 327, 801, 108, 663, 208]] #[{ accessFlags := 2, nameIndex := 5, descriptorIndex := 6, attributes := #[] }, { accessFlags := 265, nameIndex := 727, descriptorIndex := 728, attributes := #[] }] 49 2 #[] #[{ accessFlags := 25, nameIndex := 507, descriptorIndex := 526, attributes := #[] }, { accessFlags := 25, nameIndex := 399, descriptorIndex := 155, attributes := #[] }, { accessFlags := 25, nameIndex := 396, descriptorIndex := 155, attributes := #[] }, { accessFlags := 10, nameIndex := 525, descriptorIndex := 526, attributes := #[] }, { accessFlags := 26, nameIndex := 674, descriptorIndex := 12, attributes := #[] }, { accessFlags := 26, nameIndex := 677, descriptorIndex := 12, attributes := #[] }, { accessFlags := 10, nameIndex := 11, descriptorIndex := 12, attributes := #[] }, { accessFlags := 74, nameIndex := 175, descriptorIndex := 176, attributes := #[] }, { accessFlags := 10, nameIndex := 491, descriptorIndex := 222, attributes := #[] }, { accessFlags := 74, nameIndex := 29, descriptorIndex := 30, attributes := #[] }, { accessFlags := 74, nameIndex := 154, descriptorIndex := 155, attributes := #[] }, { accessFlags := 10, nameIndex := 217, descriptorIndex := 218, attributes := #[] }, { accessFlags := 10, nameIndex := 221, descriptorIndex := 222, attributes := #[] }, { accessFlags := 8, nameIndex := 562, descriptorIndex := 563, attributes := #[] }])
  fields := #[{ name := "in", type := (.object "java/io/InputStream"), accessFlags := 25, slot := 0, constantValue := 0 }, { name := "out", type := (.object "java/io/PrintStream"), accessFlags := 25, slot := 1, constantValue := 0 }, { name := "err", type := (.object "java/io/PrintStream"), accessFlags := 25, slot := 2, constantValue := 0 }, { name := "initialIn", type := (.object "java/io/InputStream"), accessFlags := 10, slot := 3, constantValue := 0 }, { name := "NEVER", type := .int, accessFlags := 26, slot := 4, constantValue := 0 }, { name := "MAYBE", type := .int, accessFlags := 26, slot := 5, constantValue := 0 }, { name := "allowSecurityManager", type := .int, accessFlags := 10, slot := 6, constantValue := 0 }, { name := "security", type := (.object "java/lang/SecurityManager"), accessFlags := 74, slot := 7, constantValue := 0 }, { name := "notSupportedJnuEncoding", type := (.object "java/lang/String"), accessFlags := 10, slot := 8, constantValue := 0 }, { name := "cons", type := (.object "java/io/Console"), accessFlags := 74, slot := 9, constantValue := 0 }, { name := "initialErrStream", type := (.object "java/io/PrintStream"), accessFlags := 74, slot := 10, constantValue := 0 }, { name := "props", type := (.object "java/util/Properties"), accessFlags := 10, slot := 11, constantValue := 0 }, { name := "lineSeparator", type := (.object "java/lang/String"), accessFlags := 10, slot := 12, constantValue := 0 }, { name := "bootLayer", type := (.object "java/lang/ModuleLayer"), accessFlags := 8, slot := 13, constantValue := 0 }]
  methods := #[k5m0, k5m1]
  instanceTypes := #[]
  staticTypes := #[(.object "java/io/InputStream"), (.object "java/io/PrintStream"), (.object "java/io/PrintStream"), (.object "java/io/InputStream"), .int, .int, .int, (.object "java/lang/SecurityManager"), (.object "java/lang/String"), (.object "java/io/Console"), (.object "java/io/PrintStream"), (.object "java/util/Properties"), (.object "java/lang/String"), (.object "java/lang/ModuleLayer")]
  resolved := Array.replicate 834 none
  statics := none }

def pool6 : Array CpInfo := pool [(1, u "java/lang/Cloneable"), (0, .class_ 1), (0, u "java/lang/Object"), (0, .class_ 3)] 3

/-- java/lang/Cloneable -/
def k6 : Class := { plain "java/lang/Cloneable" (some 0) with
  accessFlags := 1537
  interfaces := #[]
  cf := some (fileOf pool6 2 #[] #[] 1537 4 #[] #[])
  fields := #[]
  methods := #[]
  instanceTypes := #[]
  staticTypes := #[]
  resolved := Array.replicate 8 none
  statics := none }

def pool7 : Array CpInfo := pool [(1, u "java/io/Serializable"), (0, .class_ 1), (0, u "java/lang/Object"), (0, .class_ 3)] 3

/-- java/io/Serializable -/
def k7 : Class := { plain "java/io/Serializable" (some 0) with
  accessFlags := 1537
  interfaces := #[]
  cf := some (fileOf pool7 2 #[] #[] 1537 4 #[] #[])
  fields := #[]
  methods := #[]
  instanceTypes := #[]
  staticTypes := #[]
  resolved := Array.replicate 8 none
  statics := none }

/-- the primitive boolean -/
def k8 : Class := { plain "boolean" none with kind := .primitive 'Z', accessFlags := 0x411 }
/-- [Z -/
def k9 : Class := { plain "[Z" (some 0) with kind := .array 8 .boolean, interfaces := #[6, 7], accessFlags := 1041 }

/-- the primitive byte -/
def k10 : Class := { plain "byte" none with kind := .primitive 'B', accessFlags := 0x411 }
/-- [B -/
def k11 : Class := { plain "[B" (some 0) with kind := .array 10 .byte, interfaces := #[6, 7], accessFlags := 1041 }

/-- the primitive int -/
def k12 : Class := { plain "int" none with kind := .primitive 'I', accessFlags := 0x411 }
/-- [I -/
def k13 : Class := { plain "[I" (some 0) with kind := .array 12 .int, interfaces := #[6, 7], accessFlags := 1041 }

def heap : Heap := #[]
def classes : Array Class := #[k0, k1, k2, k3, k4, k5, k6, k7, k8, k9, k10, k11, k12, k13]
def interned : List (Array UInt16 × Addr) := []
def slotsUsed : Nat := 0
def theMethod : MethodId := ⟨1, 1⟩
def args0 : Array Value := #[.int 3, .int 1, .int 5, .int 6, .int 7, .int 8]
def aboutOver (below : List Frame) : State where
  vm := { classes := classes, interned := interned.toArray }
  heap := heap
  slotsUsed := slotsUsed
  threads := #[{ frames := .invoking theMethod args0 :: below }]
def below0 : List Frame := [.native { method := ⟨0, 0⟩, args := #[] }]
def about1 : State := aboutOver below0
def p0 : Program := .bare "" "" ""
def e0 : Env := launch0.env 0 0 0
theorem w_frames : about1.frames = Frame.invoking theMethod args0 :: below0 := rfl
set_option maxRecDepth 65536 in
theorem w_args : argsFit about1.vm theMethod args0 = true := by decide +kernel
set_option maxRecDepth 65536 in
theorem w_heap : heapFits about1 = true := by decide +kernel
set_option maxRecDepth 65536 in
theorem w_runnable : about1.curStatus? = some .runnable := by decide +kernel
set_option maxRecDepth 65536 in
theorem w_alone : about1.alone = true := by decide +kernel
set_option maxRecDepth 65536 in
theorem w_named : about1.methodNamed? x = some theMethod := by decide +kernel
set_option maxRecDepth 65536 in
theorem w_hears : about1.hears theMethod below0 = true := by decide +kernel
set_option maxRecDepth 65536 in
theorem w_ripe : about1.ripe theMethod args0 below0 = true := by decide +kernel
theorem w_running : about1.status = .running := rfl
set_option maxRecDepth 65536 in
theorem w_room : about1.hasRoom e0.platform room_1 = true :=
  launch0.hasRoom_least _ room_1 (by decide +kernel) (by decide +kernel) (by decide +kernel) (by decide +kernel) (by decide +kernel) (by decide +kernel)
theorem allAtoms_all (ts : List Jvm.Cond) (a : Array Jvm.Value) (st : Jvm.State) : (allAtoms ts).before a st = ts.all (fun c => c.before a st) := by
  induction ts with
  | nil => rfl
  | cons c t ih =>
    show (Jvm.Cond.and c (allAtoms t)).before a st = _
    rw [Jvm.Cond.before_and, ih, List.all_cons]
def words1 : List Jvm.Cond := Jvm.Cond.code x code maxLocals ret :: tables_1
/-- a 'code' word, met by the world's own term for the bytes: nothing is compared byte by byte -/
theorem code_word {y : MethodName} {bytes : ByteArray} {mx : Nat} {rt : Option FieldType} {a : Array Value} {s : State} {m : MethodId} {meth : Method} {c : Code} (h1 : s.methodNamed? y = some m) (h2 : s.vm.method? m = some meth) (h3 : meth.code = some c) (h4 : c.code = bytes)
    (h5 : (c.maxLocals == mx && c.exceptionTable.isEmpty && decide (c.maxStack ≤ mostOperands) && decide (meth.sig.returnType = rt) && !meth.locks && decide (parseMethodDescriptor y.desc = some meth.sig)) = true) : (Jvm.Cond.code y bytes mx rt).before a s = true := by
  simp only [Bool.and_eq_true, beq_iff_eq, Bool.not_eq_true', decide_eq_true_eq] at h5
  obtain ⟨⟨⟨⟨⟨g1, g2⟩, g3⟩, g4⟩, g5⟩, g6⟩ := h5
  simp [Cond.before, Cond.holds, Cond.value, h1, h2, h3, h4, g1, g2, g3, g4, g5, g6]
def isCode : Jvm.Cond → Bool
  | .code _ _ _ _ => true
  | _ => false
theorem all_split {L : List Jvm.Cond} {P : Jvm.Cond → Bool} (h1 : L.all (fun c => isCode c || P c) = true) (h2 : ∀ c ∈ L.filter isCode, P c = true) : L.all P = true := by
  refine List.all_eq_true.mpr fun c hc => ?_
  have h := List.all_eq_true.mp h1 c hc
  rcases Bool.eq_false_or_eq_true (isCode c) with hi | hi
  · exact h2 c (List.mem_filter.mpr ⟨hc, hi⟩)
  · simpa [hi] using h
set_option maxRecDepth 65536 in
theorem w_c0 : (Jvm.Cond.code x code maxLocals ret).before args0 about1 = true := code_word (m := ⟨1, 1⟩) (meth := k1m1) (c := k1c1) (by decide +kernel) rfl rfl rfl (by decide +kernel)
set_option maxRecDepth 65536 in
theorem w_c1 : (Jvm.Cond.code ({ cls := "com/example/boxwise/boxwise/Dfa$Builder", name := "<init>", desc := "(I)V" } : Jvm.MethodName) prog_18_method_1_code (2 : Nat) (Option.none : Option Jvm.ClassFile.FieldType)).before args0 about1 = true := code_word (m := ⟨2, 0⟩) (meth := k2m0) (c := k2c0) (by decide +kernel) rfl rfl rfl (by decide +kernel)
set_option maxRecDepth 65536 in
theorem w_c2 : (Jvm.Cond.code ({ cls := "java/lang/Object", name := "<init>", desc := "()V" } : Jvm.MethodName) object_method_1_code (1 : Nat) (Option.none : Option Jvm.ClassFile.FieldType)).before args0 about1 = true := code_word (m := ⟨0, 0⟩) (meth := k0m0) (c := k0c0) (by decide +kernel) rfl rfl rfl (by decide +kernel)
set_option maxRecDepth 65536 in
theorem w_c3 : (Jvm.Cond.code ({ cls := "com/example/boxwise/boxwise/Dfa$Builder", name := "addState", desc := "(Z)I" } : Jvm.MethodName) prog_18_method_2_code (4 : Nat) (Option.some Jvm.ClassFile.FieldType.int)).before args0 about1 = true := code_word (m := ⟨2, 1⟩) (meth := k2m1) (c := k2c1) (by decide +kernel) rfl rfl rfl (by decide +kernel)
set_option maxRecDepth 65536 in
theorem w_c4 : (Jvm.Cond.code ({ cls := "java/lang/Math", name := "max", desc := "(II)I" } : Jvm.MethodName) jdk_29_method_65_code (2 : Nat) (Option.some Jvm.ClassFile.FieldType.int)).before args0 about1 = true := code_word (m := ⟨3, 1⟩) (meth := k3m1) (c := k3c1) (by decide +kernel) rfl rfl rfl (by decide +kernel)
set_option maxRecDepth 65536 in
theorem w_c5 : (Jvm.Cond.code ({ cls := "java/util/Arrays", name := "copyOf", desc := "([ZI)[Z" } : Jvm.MethodName) jdk_65_method_128_code (3 : Nat) (Option.some (Jvm.ClassFile.FieldType.array Jvm.ClassFile.FieldType.boolean))).before args0 about1 = true := code_word (m := ⟨4, 4⟩) (meth := k4m4) (c := k4c4) (by decide +kernel) rfl rfl rfl (by decide +kernel)
set_option maxRecDepth 65536 in
theorem w_c6 : (Jvm.Cond.code ({ cls := "java/lang/Math", name := "min", desc := "(II)I" } : Jvm.MethodName) jdk_29_method_69_code (2 : Nat) (Option.some Jvm.ClassFile.FieldType.int)).before args0 about1 = true := code_word (m := ⟨3, 2⟩) (meth := k3m2) (c := k3c2) (by decide +kernel) rfl rfl rfl (by decide +kernel)
set_option maxRecDepth 65536 in
theorem w_c7 : (Jvm.Cond.code ({ cls := "java/util/Arrays", name := "copyOf", desc := "([II)[I" } : Jvm.MethodName) jdk_65_method_123_code (3 : Nat) (Option.some (Jvm.ClassFile.FieldType.array Jvm.ClassFile.FieldType.int))).before args0 about1 = true := code_word (m := ⟨4, 3⟩) (meth := k4m3) (c := k4c3) (by decide +kernel) rfl rfl rfl (by decide +kernel)
set_option maxRecDepth 65536 in
theorem w_c8 : (Jvm.Cond.code ({ cls := "java/util/Arrays", name := "fill", desc := "([IIII)V" } : Jvm.MethodName) jdk_65_method_104_code (5 : Nat) (Option.none : Option Jvm.ClassFile.FieldType)).before args0 about1 = true := code_word (m := ⟨4, 2⟩) (meth := k4m2) (c := k4c2) (by decide +kernel) rfl rfl rfl (by decide +kernel)
set_option maxRecDepth 65536 in
theorem w_c9 : (Jvm.Cond.code ({ cls := "java/util/Arrays", name := "rangeCheck", desc := "(III)V" } : Jvm.MethodName) jdk_65_method_30_code (3 : Nat) (Option.none : Option Jvm.ClassFile.FieldType)).before args0 about1 = true := code_word (m := ⟨4, 1⟩) (meth := k4m1) (c := k4c1) (by decide +kernel) rfl rfl rfl (by decide +kernel)
set_option maxRecDepth 65536 in
theorem w_c10 : (Jvm.Cond.code ({ cls := "com/example/boxwise/boxwise/Dfa$Builder", name := "setNext", desc := "(III)V" } : Jvm.MethodName) prog_18_method_5_code (4 : Nat) (Option.none : Option Jvm.ClassFile.FieldType)).before args0 about1 = true := code_word (m := ⟨2, 3⟩) (meth := k2m3) (c := k2c3) (by decide +kernel) rfl rfl rfl (by decide +kernel)
set_option maxRecDepth 65536 in
theorem w_c11 : (Jvm.Cond.code ({ cls := "com/example/boxwise/boxwise/Dfa$Builder", name := "next", desc := "(II)I" } : Jvm.MethodName) prog_18_method_4_code (3 : Nat) (Option.some Jvm.ClassFile.FieldType.int)).before args0 about1 = true := code_word (m := ⟨2, 2⟩) (meth := k2m2) (c := k2c2) (by decide +kernel) rfl rfl rfl (by decide +kernel)
def codes1 : List Jvm.Cond := [Jvm.Cond.code x code maxLocals ret, Jvm.Cond.code ({ cls := "com/example/boxwise/boxwise/Dfa$Builder", name := "<init>", desc := "(I)V" } : Jvm.MethodName) prog_18_method_1_code (2 : Nat) (Option.none : Option Jvm.ClassFile.FieldType), Jvm.Cond.code ({ cls := "java/lang/Object", name := "<init>", desc := "()V" } : Jvm.MethodName) object_method_1_code (1 : Nat) (Option.none : Option Jvm.ClassFile.FieldType), Jvm.Cond.code ({ cls := "com/example/boxwise/boxwise/Dfa$Builder", name := "addState", desc := "(Z)I" } : Jvm.MethodName) prog_18_method_2_code (4 : Nat) (Option.some Jvm.ClassFile.FieldType.int), Jvm.Cond.code ({ cls := "java/lang/Math", name := "max", desc := "(II)I" } : Jvm.MethodName) jdk_29_method_65_code (2 : Nat) (Option.some Jvm.ClassFile.FieldType.int), Jvm.Cond.code ({ cls := "java/util/Arrays", name := "copyOf", desc := "([ZI)[Z" } : Jvm.MethodName) jdk_65_method_128_code (3 : Nat) (Option.some (Jvm.ClassFile.FieldType.array Jvm.ClassFile.FieldType.boolean)), Jvm.Cond.code ({ cls := "java/lang/Math", name := "min", desc := "(II)I" } : Jvm.MethodName) jdk_29_method_69_code (2 : Nat) (Option.some Jvm.ClassFile.FieldType.int), Jvm.Cond.code ({ cls := "java/util/Arrays", name := "copyOf", desc := "([II)[I" } : Jvm.MethodName) jdk_65_method_123_code (3 : Nat) (Option.some (Jvm.ClassFile.FieldType.array Jvm.ClassFile.FieldType.int)), Jvm.Cond.code ({ cls := "java/util/Arrays", name := "fill", desc := "([IIII)V" } : Jvm.MethodName) jdk_65_method_104_code (5 : Nat) (Option.none : Option Jvm.ClassFile.FieldType), Jvm.Cond.code ({ cls := "java/util/Arrays", name := "rangeCheck", desc := "(III)V" } : Jvm.MethodName) jdk_65_method_30_code (3 : Nat) (Option.none : Option Jvm.ClassFile.FieldType), Jvm.Cond.code ({ cls := "com/example/boxwise/boxwise/Dfa$Builder", name := "setNext", desc := "(III)V" } : Jvm.MethodName) prog_18_method_5_code (4 : Nat) (Option.none : Option Jvm.ClassFile.FieldType), Jvm.Cond.code ({ cls := "com/example/boxwise/boxwise/Dfa$Builder", name := "next", desc := "(II)I" } : Jvm.MethodName) prog_18_method_4_code (3 : Nat) (Option.some Jvm.ClassFile.FieldType.int)]
set_option maxRecDepth 65536 in
theorem codes_eq : words1.filter isCode = codes1 := rfl
theorem w_codes : ∀ c ∈ words1.filter isCode, c.before args0 about1 = true := by
  rw [codes_eq]
  intro c hc
  simp only [codes1, List.mem_cons, List.not_mem_nil, or_false] at hc
  rcases hc with rfl | rfl | rfl | rfl | rfl | rfl | rfl | rfl | rfl | rfl | rfl | rfl
  · exact w_c0
  · exact w_c1
  · exact w_c2
  · exact w_c3
  · exact w_c4
  · exact w_c5
  · exact w_c6
  · exact w_c7
  · exact w_c8
  · exact w_c9
  · exact w_c10
  · exact w_c11
set_option maxRecDepth 65536 in
theorem w_t1 : (words1.take 24).all (fun c => isCode c || c.before args0 about1) = true := by decide +kernel
set_option maxRecDepth 65536 in
theorem w_t2 : ((words1.drop 24).take 24).all (fun c => isCode c || c.before args0 about1) = true := by decide +kernel
set_option maxRecDepth 65536 in
theorem w_t3 : ((words1.drop 24).drop 24).all (fun c => isCode c || c.before args0 about1) = true := by decide +kernel
theorem w_tables : (allAtoms (Jvm.Cond.code x code maxLocals ret :: tables_1)).before args0 about1 = true := by
  rw [allAtoms_all]
  show words1.all (fun c => c.before args0 about1) = true
  refine all_split ?_ w_codes
  rw [← List.take_append_drop 24 words1, List.all_append, w_t1, ← List.take_append_drop 24 (words1.drop 24), List.all_append, w_t2, w_t3]
  rfl
set_option maxRecDepth 65536 in
theorem w_case : (Jvm.Cond.and given_1 narrow_1).before args0 about1 = true := by decide +kernel
theorem w_applies : (headSpec (Jvm.Cond.code x code maxLocals ret :: tables_1) room_1).applies x e0.platform about1 = true :=
  (Spec.applies_iff w_frames).mpr ⟨w_running, w_runnable, w_alone, w_named, w_hears, w_ripe, w_room, w_tables⟩
theorem atStart : AtStart classFile x code maxLocals ret World_1 tables_1 room_1 Calls_1 rest_1 Pre_1 launch0 p0 e0 about1 theMethod args0 below0 :=
  ⟨lists_1, trivial, launch0.admits_env _ _ _, launch0.least_env, fairChoices_fair.cas, fairChoices_fair.clock, w_frames, w_args, w_heap, w_applies, trivial, trivial, w_case⟩
end start1
theorem witness_1 : WitnessClaimed_1 := ⟨start1.p0, start1.e0, start1.about1, start1.theMethod, start1.args0, start1.below0, start1.atStart⟩
end Jvm.Pilot.@@N@@
