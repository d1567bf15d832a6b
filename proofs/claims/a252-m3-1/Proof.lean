import JvmDerived
import JvmDerived.Pilot.@@N@@Statement
import JvmDerived.Pilot.@@N@@Code
set_option linter.unusedVariables false
set_option linter.unusedSimpArgs false
namespace Jvm.RoadKit
open Sem ClassFile Op Lib Jvm.Stand Jvm.Free Jvm.LawKit
section New
variable {p : Program} {l : Launch} {e : Env} {R : Room} {s : State} {m : MethodId} {args : Array Value} {below : List Frame} {meth : Method} {c : Code} {T : State} {locs : List Loc} {cells slots : Nat}
theorem retI (X : Stand p l e R s m args below meth c T locs cells slots) (hx : p.tables.exec = Jvm.exec) {pc : Nat} {Ls : Array Slot} {z : Int32} {rest : List Value} (hret : meth.sig.returnType = some .int) (hd : decode c.code pc = .ok (.ireturn, 1)) {fs : List Frame}
    (hl : ∀ (f : JFrame) (acts : List Action), f.method = m → f.locked = none → f.entered = [] → (doReturn e (T.setTop f) acts (some (.int z))).1 = T.setFrames fs) : Steps p.tables e below (T.setTop (mkF m pc Ls (.int z :: rest))) (T.setFrames fs) := by
  have hm' : T.vm.method? m = some meth := X.method'
  have hn : narrow .int (.int z) = .int z := rfl
  show Steps p.tables e below (T.setTop { method := m, pc := pc, locals := Ls, stack := _ :: rest, locked := none }) _
  jvm_step X.here [X.here.top, hx, hd, hm', hret, hn]
  first | (intro acts; rw [hl _ acts rfl rfl rfl]) | rw [hl _ _ rfl rfl rfl]
  exact Steps.refl _
end New
end Jvm.RoadKit
namespace Jvm.Pilot.@@N@@
open Jvm Jvm.ClassFile Sem Op Lib Jvm.Free Jvm.Stand Jvm.LawKit Jvm.RoadKit Bundle Jvm.Pilot.@@N@@.Jvm.D
def own_cell (p1 p2 : Int32) : Int64 := ((p2.toInt64) <<< ((32 : Int32) &&& 0x3f).toInt64) ||| ((p1.toInt64) &&& (4294967295 : Int64))
def own_check (q1 : Int64) : Int32 := ((q1.toUInt64 >>> ((32 : Int32) &&& 0x3f).toInt64.toUInt64).toInt64).toInt32

theorem own_cell_bv (p1 p2 : Int32) : (own_cell p1 p2).toBitVec = (p2.toBitVec.signExtend 64 <<< 32) ||| (p1.toBitVec.signExtend 64 &&& 4294967295#64) := by
  unfold own_cell
  rw [Int64.toBitVec_or, Int64.toBitVec_and, Int64.toBitVec_shiftLeft]
  rfl
theorem own_check_bv (q : Int64) : (own_check q).toBitVec = (q.toBitVec >>> 32).signExtend 32 := by
  unfold own_check
  have e : ((32 : Int32) &&& 0x3f).toInt64.toUInt64 = 32 := by decide
  rw [e]
  show ((q.toUInt64 >>> 32).toBitVec).signExtend 32 = _
  rw [UInt64.toBitVec_shiftRight]
  rfl
theorem own_mask_bit (i : Nat) : (4294967295#64).getLsbD i = decide (i < 32) := by
  show (4294967295 % 2 ^ 64).testBit i = _
  rw [show 4294967295 % 2 ^ 64 = 2 ^ 32 - 1 from by decide, Nat.testBit_two_pow_sub_one]
theorem own_check_cell (p1 p2 : Int32) : own_check (own_cell p1 p2) = p2 := by
  apply Int32.toBitVec_inj.mp
  rw [own_check_bv, own_cell_bv]
  apply BitVec.eq_of_getLsbD_eq
  intro i hi
  have h1 : i < 64 := by omega
  have h2 : 32 + i < 64 := by omega
  have h3 : ¬ (32 + i < 32) := by omega
  have h4 : 32 + i - 32 = i := by omega
  simp only [BitVec.getLsbD_signExtend, hi, BitVec.getLsbD_shiftLeft, own_mask_bit, BitVec.getLsbD_ushiftRight, BitVec.getLsbD_or, BitVec.getLsbD_and, h1, h2, h3, h4, decide_true, decide_false, Bool.and_false, Bool.or_false, Bool.true_and, if_true, Bool.not_false]
theorem own_and_zero (a b : BitVec 64) : (a <<< 32) &&& (b &&& 4294967295#64) = 0#64 := by
  apply BitVec.eq_of_getLsbD_eq
  intro i hi
  simp only [BitVec.getLsbD_and, BitVec.getLsbD_shiftLeft, BitVec.getLsbD_zero, own_mask_bit]
  by_cases h : i < 32 <;> simp [h]
theorem own_shl_mul (a : BitVec 64) : a <<< 32 = a * 4294967296#64 := by
  rw [BitVec.shiftLeft_eq_mul_twoPow]
  congr 1
theorem own_cell_add (p1 p2 : Int32) : own_cell p1 p2 = p2.toInt64 * 4294967296 + (p1.toInt64 &&& 4294967295) := by
  apply Int64.toBitVec_inj.mp
  rw [own_cell_bv, Int64.toBitVec_add, Int64.toBitVec_mul, Int64.toBitVec_and, ← BitVec.add_eq_or_of_and_eq_zero _ _ (own_and_zero _ _), own_shl_mul]
  rfl
theorem own_base_cell (p1 p2 : Int32) : (own_cell p1 p2).toInt32 = p1 := by
  apply Int32.toBitVec_inj.mp
  show (own_cell p1 p2).toBitVec.signExtend 32 = _
  rw [own_cell_bv]
  apply BitVec.eq_of_getLsbD_eq
  intro i hi
  have h1 : i < 64 := by omega
  simp only [BitVec.getLsbD_signExtend, hi, BitVec.getLsbD_shiftLeft, own_mask_bit, BitVec.getLsbD_ushiftRight, BitVec.getLsbD_or, BitVec.getLsbD_and, h1, decide_true, decide_false, Bool.and_false, Bool.or_false, Bool.true_and, if_true, Bool.not_true, Bool.false_and, Bool.false_or, Bool.and_true]
theorem own_lo_pos (p1 : Int32) (h : ¬ p1 < 0) : p1.toInt64 &&& 4294967295 = p1.toInt64 := by
  apply Int64.toInt_inj.mp
  have a := c_maskL p1.toInt64 4294967295 32 (by decide) (by decide)
  have b := c_i2l p1
  have r := rng32 p1
  rw [Int32.lt_iff_toInt_lt] at h
  have z : (0 : Int32).toInt = 0 := rfl
  rw [a, b]; omega
theorem own_lo_neg (p1 : Int32) (h : p1 < 0) : p1.toInt64 &&& 4294967295 = p1.toInt64 + 4294967296 := by
  apply Int64.toInt_inj.mp
  have a := c_maskL p1.toInt64 4294967295 32 (by decide) (by decide)
  have b := c_i2l p1
  have r := rng32 p1
  have d := c_ladd p1.toInt64 4294967296
  have r2 := rng64 (p1.toInt64 + 4294967296)
  rw [Int32.lt_iff_toInt_lt] at h
  have z : (0 : Int32).toInt = 0 := rfl
  have z2 : (4294967296 : Int64).toInt = 4294967296 := rfl
  rw [a, b]; omega
theorem own_cell_pos (p1 p2 : Int32) (h : ¬ p1 < 0) : own_cell p1 p2 = (p2.toInt64 * (4294967296 : Int64)) + p1.toInt64 := by rw [own_cell_add, own_lo_pos p1 h]
theorem own_cell_neg (p1 p2 : Int32) (h : p1 < 0) : own_cell p1 p2 = (p2.toInt64 * (4294967296 : Int64)) + (p1.toInt64 + 4294967296) := by rw [own_cell_add, own_lo_neg p1 h]
def own_isLeaf (p1 : Int32) (q2 : Int64) : Int32 := if p1 = 0 then 0 else if own_check q2 < 0 then 1 else 0
theorem own_check_lt (q : Int64) : own_check q < 0 ↔ q < 0 := by
  have a := c_lushr q 32 32 (by decide) (by decide)
  have b := c_l2i ((q.toUInt64 >>> ((32 : Int32) &&& 0x3f).toInt64.toUInt64).toInt64)
  have r := rng64 q
  have r2 := rng32 (own_check q)
  have e : own_check q = ((q.toUInt64 >>> ((32 : Int32) &&& 0x3f).toInt64.toUInt64).toInt64).toInt32 := rfl
  rw [← e] at b
  rw [Int32.lt_iff_toInt_lt, Int64.lt_iff_toInt_lt]
  have z : (0 : Int32).toInt = 0 := rfl
  have z2 : (0 : Int64).toInt = 0 := rfl
  omega
theorem own_isLeaf_0 {p : Int32} (q : Int64) (h : p = 0) : own_isLeaf p q = 0 := if_pos h
theorem own_isLeaf_t {p : Int32} {q : Int64} (h : ¬ p = 0) (g : own_check q < 0) : own_isLeaf p q = 1 := (if_neg h).trans (if_pos g)
theorem own_isLeaf_f {p : Int32} {q : Int64} (g : ¬ own_check q < 0) : own_isLeaf p q = 0 := by
  unfold own_isLeaf; by_cases h : p = 0
  · exact if_pos h
  · exact (if_neg h).trans (if_neg g)
def own_p (p3 : Int32) : Int32 := (p3 &&& 2147483647) % 2147483646
theorem own_p_nn (p3 : Int32) : 0 ≤ (own_p p3).toInt := by
  have a := c_and p3 2147483647 (by decide)
  have b := (c_irem (p3 &&& 2147483647) 2147483646 2147483646 rfl).1 a.1
  have e : own_p p3 = (p3 &&& 2147483647) % 2147483646 := rfl
  rw [← e] at b; omega
theorem own_p_not (p3 : Int32) : (own_p p3) ^^^ (-1) < 0 := by
  have a := (c_xorS (own_p p3) (-1)).2.2.1 (own_p_nn p3) (by decide)
  rw [Int32.lt_iff_toInt_lt]; exact a
theorem own_leafpos (p4 p3 : Int32) : own_check (own_cell p4 ((own_p p3) ^^^ (-1))) < 0 := by rw [own_check_cell]; exact own_p_not p3
theorem own_inner (p4 p3 : Int32) : ¬ own_check (own_cell p4 (own_p p3)) < 0 := by
  rw [own_check_cell, Int32.lt_iff_toInt_lt]; have := own_p_nn p3; have z : (0 : Int32).toInt = 0 := rfl; omega
theorem pd_0 : parseMethodDescriptor "(IJ)Z" = some ⟨[.int, .long], some .boolean⟩ := by decide +kernel
theorem pd_1 : parseMethodDescriptor "(II)J" = some ⟨[.int, .int], some .long⟩ := by decide +kernel
theorem pd_2 : parseMethodDescriptor "(J)I" = some ⟨[.long], some .int⟩ := by decide +kernel
theorem d1_0 : decode prog_8_method_12_code 0 = .ok (.iload_n 0, 1) := by decide +kernel
theorem d1_1 : decode prog_8_method_12_code 1 = .ok (.ifCond .eq 14, 3) := by decide +kernel
theorem d1_4 : decode prog_8_method_12_code 4 = .ok (.lload_n 1, 1) := by decide +kernel
theorem d1_5 : decode prog_8_method_12_code 5 = .ok (.invokestatic 70, 3) := by decide +kernel
theorem d1_8 : decode prog_8_method_12_code 8 = .ok (.ifCond .ge 7, 3) := by decide +kernel
theorem d1_11 : decode prog_8_method_12_code 11 = .ok (.iconst 1, 1) := by decide +kernel
theorem d1_12 : decode prog_8_method_12_code 12 = .ok (.goto 4, 3) := by decide +kernel
theorem d1_15 : decode prog_8_method_12_code 15 = .ok (.iconst 0, 1) := by decide +kernel
theorem d1_16 : decode prog_8_method_12_code 16 = .ok (.ireturn, 1) := by decide +kernel
theorem pn_1 : plainName "com/example/twinbase/twinbase/DoubleArray" = true := by first | (simp [plainName, overriddenIn]; done) | decide +kernel
theorem d2_0 : decode prog_8_method_22_code 0 = .ok (.iload_n 1, 1) := by decide +kernel
theorem d2_1 : decode prog_8_method_22_code 1 = .ok (.iload_n 0, 1) := by decide +kernel
theorem d2_2 : decode prog_8_method_22_code 2 = .ok (.iconst (-1), 1) := by decide +kernel
theorem d2_3 : decode prog_8_method_22_code 3 = .ok (.ixor, 1) := by decide +kernel
theorem d2_4 : decode prog_8_method_22_code 4 = .ok (.invokestatic 80, 3) := by decide +kernel
theorem d2_7 : decode prog_8_method_22_code 7 = .ok (.lreturn, 1) := by decide +kernel
theorem pn_2 : plainName "com/example/twinbase/twinbase/DoubleArray" = true := by first | (simp [plainName, overriddenIn]; done) | decide +kernel
theorem d3_0 : decode prog_8_method_23_code 0 = .ok (.iload_n 1, 1) := by decide +kernel
theorem d3_1 : decode prog_8_method_23_code 1 = .ok (.i2l, 1) := by decide +kernel
theorem d3_2 : decode prog_8_method_23_code 2 = .ok (.bipush 32, 2) := by decide +kernel
theorem d3_4 : decode prog_8_method_23_code 4 = .ok (.lshl, 1) := by decide +kernel
theorem d3_5 : decode prog_8_method_23_code 5 = .ok (.iload_n 0, 1) := by decide +kernel
theorem d3_6 : decode prog_8_method_23_code 6 = .ok (.i2l, 1) := by decide +kernel
theorem d3_7 : decode prog_8_method_23_code 7 = .ok (.ldc2_w 84, 3) := by decide +kernel
theorem d3_10 : decode prog_8_method_23_code 10 = .ok (.land, 1) := by decide +kernel
theorem d3_11 : decode prog_8_method_23_code 11 = .ok (.lor, 1) := by decide +kernel
theorem d3_12 : decode prog_8_method_23_code 12 = .ok (.lreturn, 1) := by decide +kernel
theorem pn_3 : plainName "com/example/twinbase/twinbase/DoubleArray" = true := by first | (simp [plainName, overriddenIn]; done) | decide +kernel
theorem d4_0 : decode prog_8_method_21_code 0 = .ok (.iload_n 1, 1) := by decide +kernel
theorem d4_1 : decode prog_8_method_21_code 1 = .ok (.iload_n 0, 1) := by decide +kernel
theorem d4_2 : decode prog_8_method_21_code 2 = .ok (.invokestatic 80, 3) := by decide +kernel
theorem d4_5 : decode prog_8_method_21_code 5 = .ok (.lreturn, 1) := by decide +kernel
theorem pn_4 : plainName "com/example/twinbase/twinbase/DoubleArray" = true := by first | (simp [plainName, overriddenIn]; done) | decide +kernel
theorem d5_0 : decode prog_8_method_19_code 0 = .ok (.lload_n 0, 1) := by decide +kernel
theorem d5_1 : decode prog_8_method_19_code 1 = .ok (.bipush 32, 2) := by decide +kernel
theorem d5_3 : decode prog_8_method_19_code 3 = .ok (.lushr, 1) := by decide +kernel
theorem d5_4 : decode prog_8_method_19_code 4 = .ok (.l2i, 1) := by decide +kernel
theorem d5_5 : decode prog_8_method_19_code 5 = .ok (.ireturn, 1) := by decide +kernel
theorem pn_5 : plainName "com/example/twinbase/twinbase/DoubleArray" = true := by first | (simp [plainName, overriddenIn]; done) | decide +kernel
theorem pn_0 : plainName "com/example/twinbase/twinbase/DoubleArrayIsLeafPinLaw" = true := by first | (simp [plainName, overriddenIn]; done) | decide +kernel
theorem ef_rm3 (m : MethodId) (x0 : Int32) (x1 : Int32) : entryFrame m #[(.int x0), (.int x1)] 2 = mkF m 0 #[.val (.int x0), .val (.int x1)] [] := by first | (simp [entryFrame, mkF, argsToLocals, Value.category]; done) | rfl
def Q3 (Z : State) (p1 : Int32) (p2 : Int32) (h0 : Heap) (n0 : Nat) (v : Option Value) (h : Heap) (L : List Loc) : Prop := v = some (.long (own_cell p1 p2)) ∧ Fr n0 L ∧ h = h0
set_option maxRecDepth 65536 in
set_option maxHeartbeats 40000000 in
theorem rm3 (l : Launch) (Z : State) (a0 : Array Value) (hw : ∀ d ∈ tables_1, d.before a0 Z = true) (ws : List Jvm.Cond) (p1 : Int32) (p2 : Int32) (h0 : Heap) (n0 : Nat) (Z0 : n0 ≤ h0.size) :
    MetFree l (⟨"com/example/twinbase/twinbase/DoubleArray", "cell", "(II)J"⟩ : MethodName) (head1 (Jvm.Cond.code (⟨"com/example/twinbase/twinbase/DoubleArray", "cell", "(II)J"⟩ : MethodName) prog_8_method_23_code 2 (some .long) :: ws) ({ frames := 0, cells := 0, slots := 0, locals := 0 } : Room)) (fun a U => a = #[(.int p1), (.int p2)] ∧ Z.Warmed39 U.vm ∧ U.heap = h0) (fun _ _ _ _ _ => True) (fun _ U o U' => ∃ v L, o = .returned v ∧ Q3 Z p1 p2 h0 n0 v U'.heap L ∧ FrameEnd U o U' L ({ frames := 0, cells := 0, slots := 0, locals := 0 } : Room).cells ({ frames := 0, cells := 0, slots := 0, locals := 0 } : Room).slots) := by
  refine MetFree.of_bodySF (plainFor_of_name pn_3) hisR ?_
  intro p e s m args below meth c s₁ Bd hml0 hP hK
  obtain ⟨rfl, hZ, hh⟩ := hP
  have hx := Bd.exec
  have hby := Bd.bytes
  have hml : c.maxLocals = 2 := hml0
  have hown : s.vm.findClass "com/example/twinbase/twinbase/DoubleArray" = some m.cls := findClass_of_methodNamed Bd.named
  have hnm := (name_of_methodNamed Bd.named Bd.method).1
  have X0 : Stand p l e ({ frames := 0, cells := 0, slots := 0, locals := 0 } : Room) s m #[(.int p1), (.int p2)] below meth c s₁ [] 0 0 := Stand.of_body Bd
  have e0 : s₁.heap = h0 := by rw [← hh, Bd.state]; rfl
  have N0 := Fr.nil n0
  have a0s : ∀ t, Steps p.tables e below (s₁.setTop (mkF m 0 #[.val (.int p1), .val (.int p2)] [])) t → Steps p.tables e below (s₁.setTop (entryFrame m #[(.int p1), (.int p2)] 2)) t := fun t k => castTop (ef_rm3 m p1 p2) k
  have ac1 : ∀ t, Steps p.tables e below (s₁.setTop (mkF m 12 #[.val (.int p1), .val (.int p2)] [(.long (((p2.toInt64) <<< ((32 : Int32) &&& 0x3f).toInt64) ||| ((p1.toInt64) &&& (4294967295 : Int64))))])) t → Steps p.tables e below (s₁.setTop (entryFrame m #[(.int p1), (.int p2)] 2)) t := fun t k => a0s t (by
      show Steps p.tables e below (s₁.setTop (mkF m 0 #[.val (.int p1), .val (.int p2)] [])) _
      refine XS.iloadN X0.here hx rfl (hb hby d3_0) rfl ?_
      show Steps p.tables e below (s₁.setTop (mkF m 1 #[.val (.int p1), .val (.int p2)] [(.int p2)])) _
      refine XS.i2l X0.here hx rfl (hb hby d3_1) rfl ?_
      show Steps p.tables e below (s₁.setTop (mkF m 2 #[.val (.int p1), .val (.int p2)] [(.long (p2.toInt64))])) _
      refine XS.bipush X0.here hx rfl (hb hby d3_2) ?_
      show Steps p.tables e below (s₁.setTop (mkF m 4 #[.val (.int p1), .val (.int p2)] [(.int (32 : Int32)), (.long (p2.toInt64))])) _
      refine XS.lshl X0.here hx rfl (hb hby d3_4) rfl ?_
      show Steps p.tables e below (s₁.setTop (mkF m 5 #[.val (.int p1), .val (.int p2)] [(.long ((p2.toInt64) <<< ((32 : Int32) &&& 0x3f).toInt64))])) _
      refine XS.iloadN X0.here hx rfl (hb hby d3_5) rfl ?_
      show Steps p.tables e below (s₁.setTop (mkF m 6 #[.val (.int p1), .val (.int p2)] [(.int p1), (.long ((p2.toInt64) <<< ((32 : Int32) &&& 0x3f).toInt64))])) _
      refine XS.i2l X0.here hx rfl (hb hby d3_6) rfl ?_
      show Steps p.tables e below (s₁.setTop (mkF m 7 #[.val (.int p1), .val (.int p2)] [(.long (p1.toInt64)), (.long ((p2.toInt64) <<< ((32 : Int32) &&& 0x3f).toInt64))])) _
      refine X0.ldc2Long hx hown (mvT hZ (hw _ (List.mem_of_getElem? (i := 12) rfl))) (g := (mkF m 7 #[.val (.int p1), .val (.int p2)] [(.long (p1.toInt64)), (.long ((p2.toInt64) <<< ((32 : Int32) &&& 0x3f).toInt64))])) rfl (hb hby d3_7) _ ?_
      show Steps p.tables e below (s₁.setTop (mkF m 10 #[.val (.int p1), .val (.int p2)] [(.long (4294967295 : Int64)), (.long (p1.toInt64)), (.long ((p2.toInt64) <<< ((32 : Int32) &&& 0x3f).toInt64))])) _
      refine XS.land X0.here hx rfl (hb hby d3_10) rfl ?_
      show Steps p.tables e below (s₁.setTop (mkF m 11 #[.val (.int p1), .val (.int p2)] [(.long ((p1.toInt64) &&& (4294967295 : Int64))), (.long ((p2.toInt64) <<< ((32 : Int32) &&& 0x3f).toInt64))])) _
      refine XS.lor X0.here hx rfl (hb hby d3_11) rfl ?_
      exact k)
  obtain ⟨fs, hr, hrun, hended, hW, hsame⟩ := X0.leave (v := some (.long (((p2.toInt64) <<< ((32 : Int32) &&& 0x3f).toInt64) ||| ((p1.toInt64) &&& (4294967295 : Int64))))) (fun h => by rw [Bd.returns] at h; cases h)
  refine ⟨_, _, ac1 _ ?_, hrun, hended, _, _, rfl, ?_, ⟨_, rfl⟩, hW, hsame.mono (by decide) (by decide)⟩
  · show Steps p.tables e below (s₁.setTop (mkF m 12 #[.val (.int p1), .val (.int p2)] [(.long (((p2.toInt64) <<< ((32 : Int32) &&& 0x3f).toInt64) ||| ((p1.toInt64) &&& (4294967295 : Int64))))])) _
    exact retOut X0 hx Bd.returns rfl (Or.inr (Or.inl ⟨rfl, rfl, _, rfl⟩)) (hb hby d3_12) hr
  · show Q3 Z p1 p2 h0 n0 _ s₁.heap _
    rw [e0]
    exact ⟨rfl, N0, rfl⟩
theorem ef_rm5 (m : MethodId) (x0 : Int64) : entryFrame m #[(.long x0)] 2 = mkF m 0 #[.val (.long x0), .second] [] := by first | (simp [entryFrame, mkF, argsToLocals, Value.category]; done) | rfl
def Q5 (Z : State) (q1 : Int64) (h0 : Heap) (n0 : Nat) (v : Option Value) (h : Heap) (L : List Loc) : Prop := v = some (.int (own_check q1)) ∧ Fr n0 L ∧ h = h0
set_option maxRecDepth 65536 in
set_option maxHeartbeats 40000000 in
theorem rm5 (l : Launch) (Z : State) (a0 : Array Value) (hw : ∀ d ∈ tables_1, d.before a0 Z = true) (ws : List Jvm.Cond) (q1 : Int64) (h0 : Heap) (n0 : Nat) (Z0 : n0 ≤ h0.size) :
    MetFree l (⟨"com/example/twinbase/twinbase/DoubleArray", "check", "(J)I"⟩ : MethodName) (head1 (Jvm.Cond.code (⟨"com/example/twinbase/twinbase/DoubleArray", "check", "(J)I"⟩ : MethodName) prog_8_method_19_code 2 (some .int) :: ws) ({ frames := 0, cells := 0, slots := 0, locals := 0 } : Room)) (fun a U => a = #[(.long q1)] ∧ Z.Warmed39 U.vm ∧ U.heap = h0) (fun _ _ _ _ _ => True) (fun _ U o U' => ∃ v L, o = .returned v ∧ Q5 Z q1 h0 n0 v U'.heap L ∧ FrameEnd U o U' L ({ frames := 0, cells := 0, slots := 0, locals := 0 } : Room).cells ({ frames := 0, cells := 0, slots := 0, locals := 0 } : Room).slots) := by
  refine MetFree.of_bodySF (plainFor_of_name pn_5) hisR ?_
  intro p e s m args below meth c s₁ Bd hml0 hP hK
  obtain ⟨rfl, hZ, hh⟩ := hP
  have hx := Bd.exec
  have hby := Bd.bytes
  have hml : c.maxLocals = 2 := hml0
  have hown : s.vm.findClass "com/example/twinbase/twinbase/DoubleArray" = some m.cls := findClass_of_methodNamed Bd.named
  have hnm := (name_of_methodNamed Bd.named Bd.method).1
  have X0 : Stand p l e ({ frames := 0, cells := 0, slots := 0, locals := 0 } : Room) s m #[(.long q1)] below meth c s₁ [] 0 0 := Stand.of_body Bd
  have e0 : s₁.heap = h0 := by rw [← hh, Bd.state]; rfl
  have N0 := Fr.nil n0
  have a0s : ∀ t, Steps p.tables e below (s₁.setTop (mkF m 0 #[.val (.long q1), .second] [])) t → Steps p.tables e below (s₁.setTop (entryFrame m #[(.long q1)] 2)) t := fun t k => castTop (ef_rm5 m q1) k
  have ac1 : ∀ t, Steps p.tables e below (s₁.setTop (mkF m 5 #[.val (.long q1), .second] [(.int (((q1.toUInt64 >>> ((32 : Int32) &&& 0x3f).toInt64.toUInt64).toInt64).toInt32))])) t → Steps p.tables e below (s₁.setTop (entryFrame m #[(.long q1)] 2)) t := fun t k => a0s t (by
      show Steps p.tables e below (s₁.setTop (mkF m 0 #[.val (.long q1), .second] [])) _
      refine XS.lloadN X0.here hx rfl (hb hby d5_0) rfl ?_
      show Steps p.tables e below (s₁.setTop (mkF m 1 #[.val (.long q1), .second] [(.long q1)])) _
      refine XS.bipush X0.here hx rfl (hb hby d5_1) ?_
      show Steps p.tables e below (s₁.setTop (mkF m 3 #[.val (.long q1), .second] [(.int (32 : Int32)), (.long q1)])) _
      refine XS.lushr X0.here hx rfl (hb hby d5_3) rfl ?_
      show Steps p.tables e below (s₁.setTop (mkF m 4 #[.val (.long q1), .second] [(.long ((q1.toUInt64 >>> ((32 : Int32) &&& 0x3f).toInt64.toUInt64).toInt64))])) _
      refine XS.l2i X0.here hx rfl (hb hby d5_4) rfl ?_
      exact k)
  obtain ⟨fs, hr, hrun, hended, hW, hsame⟩ := X0.leave (v := some (.int (((q1.toUInt64 >>> ((32 : Int32) &&& 0x3f).toInt64.toUInt64).toInt64).toInt32))) (fun h => by rw [Bd.returns] at h; cases h)
  refine ⟨_, _, ac1 _ ?_, hrun, hended, _, _, rfl, ?_, ⟨_, rfl⟩, hW, hsame.mono (by decide) (by decide)⟩
  · show Steps p.tables e below (s₁.setTop (mkF m 5 #[.val (.long q1), .second] [(.int (((q1.toUInt64 >>> ((32 : Int32) &&& 0x3f).toInt64.toUInt64).toInt64).toInt32))])) _
    exact retI X0 hx Bd.returns (hb hby d5_5) hr
  · show Q5 Z q1 h0 n0 _ s₁.heap _
    rw [e0]
    exact ⟨rfl, N0, rfl⟩
theorem ef_rm2 (m : MethodId) (x0 : Int32) (x1 : Int32) : entryFrame m #[(.int x0), (.int x1)] 2 = mkF m 0 #[.val (.int x0), .val (.int x1)] [] := by first | (simp [entryFrame, mkF, argsToLocals, Value.category]; done) | rfl
def Q2 (Z : State) (p1 : Int32) (p2 : Int32) (h0 : Heap) (n0 : Nat) (v : Option Value) (h : Heap) (L : List Loc) : Prop := v = some (.long (own_cell p2 (p1 ^^^ (-1)))) ∧ Fr n0 L ∧ h = h0
set_option maxRecDepth 65536 in
set_option maxHeartbeats 40000000 in
theorem rm2 (l : Launch) (Z : State) (a0 : Array Value) (hw : ∀ d ∈ tables_1, d.before a0 Z = true) (ws : List Jvm.Cond) (p1 : Int32) (p2 : Int32) (h0 : Heap) (n0 : Nat) (Z0 : n0 ≤ h0.size) :
    MetFree l (⟨"com/example/twinbase/twinbase/DoubleArray", "leaf", "(II)J"⟩ : MethodName) (head1 (Jvm.Cond.code (⟨"com/example/twinbase/twinbase/DoubleArray", "leaf", "(II)J"⟩ : MethodName) prog_8_method_22_code 2 (some .long) :: ws) ({ frames := 1, cells := 0, slots := 0, locals := 13 } : Room)) (fun a U => a = #[(.int p1), (.int p2)] ∧ Z.Warmed39 U.vm ∧ U.heap = h0) (fun _ _ _ _ _ => True) (fun _ U o U' => ∃ v L, o = .returned v ∧ Q2 Z p1 p2 h0 n0 v U'.heap L ∧ FrameEnd U o U' L ({ frames := 1, cells := 0, slots := 0, locals := 13 } : Room).cells ({ frames := 1, cells := 0, slots := 0, locals := 13 } : Room).slots) := by
  refine MetFree.of_bodySF (plainFor_of_name pn_2) hisR ?_
  intro p e s m args below meth c s₁ Bd hml0 hP hK
  obtain ⟨rfl, hZ, hh⟩ := hP
  have hx := Bd.exec
  have hby := Bd.bytes
  have hml : c.maxLocals = 2 := hml0
  have hown : s.vm.findClass "com/example/twinbase/twinbase/DoubleArray" = some m.cls := findClass_of_methodNamed Bd.named
  have hnm := (name_of_methodNamed Bd.named Bd.method).1
  have X0 : Stand p l e ({ frames := 1, cells := 0, slots := 0, locals := 13 } : Room) s m #[(.int p1), (.int p2)] below meth c s₁ [] 0 0 := Stand.of_body Bd
  have e0 : s₁.heap = h0 := by rw [← hh, Bd.state]; rfl
  have N0 := Fr.nil n0
  have a0s : ∀ t, Steps p.tables e below (s₁.setTop (mkF m 0 #[.val (.int p1), .val (.int p2)] [])) t → Steps p.tables e below (s₁.setTop (entryFrame m #[(.int p1), (.int p2)] 2)) t := fun t k => castTop (ef_rm2 m p1 p2) k
  have ac1 : ∀ t, Steps p.tables e below (s₁.setTop (mkF m 4 #[.val (.int p1), .val (.int p2)] [(.int (p1 ^^^ (-1 : Int32))), (.int p2)])) t → Steps p.tables e below (s₁.setTop (entryFrame m #[(.int p1), (.int p2)] 2)) t := fun t k => a0s t (by
      show Steps p.tables e below (s₁.setTop (mkF m 0 #[.val (.int p1), .val (.int p2)] [])) _
      refine XS.iloadN X0.here hx rfl (hb hby d2_0) rfl ?_
      show Steps p.tables e below (s₁.setTop (mkF m 1 #[.val (.int p1), .val (.int p2)] [(.int p2)])) _
      refine XS.iloadN X0.here hx rfl (hb hby d2_1) rfl ?_
      show Steps p.tables e below (s₁.setTop (mkF m 2 #[.val (.int p1), .val (.int p2)] [(.int p1), (.int p2)])) _
      refine XS.iconst X0.here hx rfl (hb hby d2_2) ?_
      show Steps p.tables e below (s₁.setTop (mkF m 3 #[.val (.int p1), .val (.int p2)] [(.int (-1 : Int32)), (.int p1), (.int p2)])) _
      refine XS.ixor X0.here hx rfl (hb hby d2_3) rfl ?_
      exact k)
  obtain ⟨_, _, ⟨T2, L2, k2, n2⟩, -, X2, ⟨Lc2, hQ2, l2, y2, z2⟩, st2⟩ := Jvm.LawKit.callS X0 hx (y := (⟨"com/example/twinbase/twinbase/DoubleArray", "cell", "(II)J"⟩ : MethodName)) hown (mvT hZ (hw _ (List.mem_of_getElem? (i := 9) rfl))) (mvT hZ (hw _ (List.mem_of_getElem? (i := 10) rfl))) (mvT hZ (hw _ (List.mem_of_getElem? (i := 4) rfl))) (mvT hZ (hw _ (List.mem_of_getElem? (i := 11) rfl))) (by decide) (backOf (W := 0) (rm3 l Z a0 hw [] p2 (p1 ^^^ (-1 : Int32))  h0 n0 Z0 ) hZ (hw _ (List.mem_of_getElem? (i := 11) rfl)) (hw _ (List.mem_of_getElem? (i := 4) rfl)) (by decide) (by decide)) (g := (mkF m 4 #[.val (.int p1), .val (.int p2)] [(.int (p1 ^^^ (-1 : Int32))), (.int p2)])) rfl (by rw [hml]; rfl) (argsL := [(.int p2), (.int (p1 ^^^ (-1 : Int32)))]) (rest := []) (lenOf pd_1 rfl) rfl (by show 2 * 0 + _ ≤ _; exact Nat.le_of_eq rfl) (hb hby d2_4) (fun _ _ => ⟨rfl, e0, (by decide : 0 + 0 ≤ _), (by decide : 0 + 0 ≤ _)⟩)
  dsimp only [Pt.U, Pt.locs, Pt.cells, Pt.slots] at X2 l2 y2 z2 st2 hQ2
  subst l2 y2 z2
  obtain ⟨rfl, N2q, Qe2⟩ := hQ2
  have N2 := Fr.app N0 N2q
  have ac3 : ∀ t, Steps p.tables e below (T2.setTop (mkF m 7 #[.val (.int p1), .val (.int p2)] [(.long (own_cell p2 (p1 ^^^ (-1 : Int32))))])) t → Steps p.tables e below (s₁.setTop (entryFrame m #[(.int p1), (.int p2)] 2)) t := fun t k => ac1 t (st2 t k)
  obtain ⟨fs, hr, hrun, hended, hW, hsame⟩ := X2.leave (v := some (.long (own_cell p2 (p1 ^^^ (-1 : Int32))))) (fun h => by rw [Bd.returns] at h; cases h)
  refine ⟨_, _, ac3 _ ?_, hrun, hended, _, _, rfl, ?_, ⟨_, rfl⟩, hW, hsame.mono (by decide) (by decide)⟩
  · show Steps p.tables e below (T2.setTop (mkF m 7 #[.val (.int p1), .val (.int p2)] [(.long (own_cell p2 (p1 ^^^ (-1 : Int32))))])) _
    exact retOut X2 hx Bd.returns rfl (Or.inr (Or.inl ⟨rfl, rfl, _, rfl⟩)) (hb hby d2_7) hr
  · show Q2 Z p1 p2 h0 n0 _ T2.heap _
    rw [Qe2]
    exact ⟨rfl, N2, rfl⟩
theorem ef_rm4 (m : MethodId) (x0 : Int32) (x1 : Int32) : entryFrame m #[(.int x0), (.int x1)] 2 = mkF m 0 #[.val (.int x0), .val (.int x1)] [] := by first | (simp [entryFrame, mkF, argsToLocals, Value.category]; done) | rfl
def Q4 (Z : State) (p1 : Int32) (p2 : Int32) (h0 : Heap) (n0 : Nat) (v : Option Value) (h : Heap) (L : List Loc) : Prop := v = some (.long (own_cell p2 p1)) ∧ Fr n0 L ∧ h = h0
set_option maxRecDepth 65536 in
set_option maxHeartbeats 40000000 in
theorem rm4 (l : Launch) (Z : State) (a0 : Array Value) (hw : ∀ d ∈ tables_1, d.before a0 Z = true) (ws : List Jvm.Cond) (p1 : Int32) (p2 : Int32) (h0 : Heap) (n0 : Nat) (Z0 : n0 ≤ h0.size) :
    MetFree l (⟨"com/example/twinbase/twinbase/DoubleArray", "inner", "(II)J"⟩ : MethodName) (head1 (Jvm.Cond.code (⟨"com/example/twinbase/twinbase/DoubleArray", "inner", "(II)J"⟩ : MethodName) prog_8_method_21_code 2 (some .long) :: ws) ({ frames := 1, cells := 0, slots := 0, locals := 13 } : Room)) (fun a U => a = #[(.int p1), (.int p2)] ∧ Z.Warmed39 U.vm ∧ U.heap = h0) (fun _ _ _ _ _ => True) (fun _ U o U' => ∃ v L, o = .returned v ∧ Q4 Z p1 p2 h0 n0 v U'.heap L ∧ FrameEnd U o U' L ({ frames := 1, cells := 0, slots := 0, locals := 13 } : Room).cells ({ frames := 1, cells := 0, slots := 0, locals := 13 } : Room).slots) := by
  refine MetFree.of_bodySF (plainFor_of_name pn_4) hisR ?_
  intro p e s m args below meth c s₁ Bd hml0 hP hK
  obtain ⟨rfl, hZ, hh⟩ := hP
  have hx := Bd.exec
  have hby := Bd.bytes
  have hml : c.maxLocals = 2 := hml0
  have hown : s.vm.findClass "com/example/twinbase/twinbase/DoubleArray" = some m.cls := findClass_of_methodNamed Bd.named
  have hnm := (name_of_methodNamed Bd.named Bd.method).1
  have X0 : Stand p l e ({ frames := 1, cells := 0, slots := 0, locals := 13 } : Room) s m #[(.int p1), (.int p2)] below meth c s₁ [] 0 0 := Stand.of_body Bd
  have e0 : s₁.heap = h0 := by rw [← hh, Bd.state]; rfl
  have N0 := Fr.nil n0
  have a0s : ∀ t, Steps p.tables e below (s₁.setTop (mkF m 0 #[.val (.int p1), .val (.int p2)] [])) t → Steps p.tables e below (s₁.setTop (entryFrame m #[(.int p1), (.int p2)] 2)) t := fun t k => castTop (ef_rm4 m p1 p2) k
  have ac1 : ∀ t, Steps p.tables e below (s₁.setTop (mkF m 2 #[.val (.int p1), .val (.int p2)] [(.int p1), (.int p2)])) t → Steps p.tables e below (s₁.setTop (entryFrame m #[(.int p1), (.int p2)] 2)) t := fun t k => a0s t (by
      show Steps p.tables e below (s₁.setTop (mkF m 0 #[.val (.int p1), .val (.int p2)] [])) _
      refine XS.iloadN X0.here hx rfl (hb hby d4_0) rfl ?_
      show Steps p.tables e below (s₁.setTop (mkF m 1 #[.val (.int p1), .val (.int p2)] [(.int p2)])) _
      refine XS.iloadN X0.here hx rfl (hb hby d4_1) rfl ?_
      exact k)
  obtain ⟨_, _, ⟨T2, L2, k2, n2⟩, -, X2, ⟨Lc2, hQ2, l2, y2, z2⟩, st2⟩ := Jvm.LawKit.callS X0 hx (y := (⟨"com/example/twinbase/twinbase/DoubleArray", "cell", "(II)J"⟩ : MethodName)) hown (mvT hZ (hw _ (List.mem_of_getElem? (i := 9) rfl))) (mvT hZ (hw _ (List.mem_of_getElem? (i := 10) rfl))) (mvT hZ (hw _ (List.mem_of_getElem? (i := 4) rfl))) (mvT hZ (hw _ (List.mem_of_getElem? (i := 11) rfl))) (by decide) (backOf (W := 0) (rm3 l Z a0 hw [] p2 p1  h0 n0 Z0 ) hZ (hw _ (List.mem_of_getElem? (i := 11) rfl)) (hw _ (List.mem_of_getElem? (i := 4) rfl)) (by decide) (by decide)) (g := (mkF m 2 #[.val (.int p1), .val (.int p2)] [(.int p1), (.int p2)])) rfl (by rw [hml]; rfl) (argsL := [(.int p2), (.int p1)]) (rest := []) (lenOf pd_1 rfl) rfl (by show 2 * 0 + _ ≤ _; exact Nat.le_of_eq rfl) (hb hby d4_2) (fun _ _ => ⟨rfl, e0, (by decide : 0 + 0 ≤ _), (by decide : 0 + 0 ≤ _)⟩)
  dsimp only [Pt.U, Pt.locs, Pt.cells, Pt.slots] at X2 l2 y2 z2 st2 hQ2
  subst l2 y2 z2
  obtain ⟨rfl, N2q, Qe2⟩ := hQ2
  have N2 := Fr.app N0 N2q
  have ac3 : ∀ t, Steps p.tables e below (T2.setTop (mkF m 5 #[.val (.int p1), .val (.int p2)] [(.long (own_cell p2 p1))])) t → Steps p.tables e below (s₁.setTop (entryFrame m #[(.int p1), (.int p2)] 2)) t := fun t k => ac1 t (st2 t k)
  obtain ⟨fs, hr, hrun, hended, hW, hsame⟩ := X2.leave (v := some (.long (own_cell p2 p1))) (fun h => by rw [Bd.returns] at h; cases h)
  refine ⟨_, _, ac3 _ ?_, hrun, hended, _, _, rfl, ?_, ⟨_, rfl⟩, hW, hsame.mono (by decide) (by decide)⟩
  · show Steps p.tables e below (T2.setTop (mkF m 5 #[.val (.int p1), .val (.int p2)] [(.long (own_cell p2 p1))])) _
    exact retOut X2 hx Bd.returns rfl (Or.inr (Or.inl ⟨rfl, rfl, _, rfl⟩)) (hb hby d4_5) hr
  · show Q4 Z p1 p2 h0 n0 _ T2.heap _
    rw [Qe2]
    exact ⟨rfl, N2, rfl⟩
theorem ef_rm1 (m : MethodId) (x0 : Int32) (x1 : Int64) : entryFrame m #[(.int x0), (.long x1)] 3 = mkF m 0 #[.val (.int x0), .val (.long x1), .second] [] := by first | (simp [entryFrame, mkF, argsToLocals, Value.category]; done) | rfl
def Q1 (Z : State) (p1 : Int32) (q2 : Int64) (h0 : Heap) (n0 : Nat) (v : Option Value) (h : Heap) (L : List Loc) : Prop := v = some (.int (own_isLeaf p1 q2)) ∧ Fr n0 L ∧ h = h0
set_option maxRecDepth 65536 in
set_option maxHeartbeats 40000000 in
theorem rm1 (l : Launch) (Z : State) (a0 : Array Value) (hw : ∀ d ∈ tables_1, d.before a0 Z = true) (ws : List Jvm.Cond) (p1 : Int32) (q2 : Int64) (h0 : Heap) (n0 : Nat) (Z0 : n0 ≤ h0.size) :
    MetFree l (⟨"com/example/twinbase/twinbase/DoubleArray", "isLeaf", "(IJ)Z"⟩ : MethodName) (head1 (Jvm.Cond.code (⟨"com/example/twinbase/twinbase/DoubleArray", "isLeaf", "(IJ)Z"⟩ : MethodName) prog_8_method_12_code 3 (some .boolean) :: ws) ({ frames := 1, cells := 0, slots := 0, locals := 13 } : Room)) (fun a U => a = #[(.int p1), (.long q2)] ∧ Z.Warmed39 U.vm ∧ U.heap = h0) (fun _ _ _ _ _ => True) (fun _ U o U' => ∃ v L, o = .returned v ∧ Q1 Z p1 q2 h0 n0 v U'.heap L ∧ FrameEnd U o U' L ({ frames := 1, cells := 0, slots := 0, locals := 13 } : Room).cells ({ frames := 1, cells := 0, slots := 0, locals := 13 } : Room).slots) := by
  refine MetFree.of_bodySF (plainFor_of_name pn_1) hisR ?_
  intro p e s m args below meth c s₁ Bd hml0 hP hK
  obtain ⟨rfl, hZ, hh⟩ := hP
  have hx := Bd.exec
  have hby := Bd.bytes
  have hml : c.maxLocals = 3 := hml0
  have hown : s.vm.findClass "com/example/twinbase/twinbase/DoubleArray" = some m.cls := findClass_of_methodNamed Bd.named
  have hnm := (name_of_methodNamed Bd.named Bd.method).1
  have X0 : Stand p l e ({ frames := 1, cells := 0, slots := 0, locals := 13 } : Room) s m #[(.int p1), (.long q2)] below meth c s₁ [] 0 0 := Stand.of_body Bd
  have e0 : s₁.heap = h0 := by rw [← hh, Bd.state]; rfl
  have N0 := Fr.nil n0
  have a0s : ∀ t, Steps p.tables e below (s₁.setTop (mkF m 0 #[.val (.int p1), .val (.long q2), .second] [])) t → Steps p.tables e below (s₁.setTop (entryFrame m #[(.int p1), (.long q2)] 3)) t := fun t k => castTop (ef_rm1 m p1 q2) k
  have ac1 : ∀ t, Steps p.tables e below (s₁.setTop (mkF m 1 #[.val (.int p1), .val (.long q2), .second] [(.int p1)])) t → Steps p.tables e below (s₁.setTop (entryFrame m #[(.int p1), (.long q2)] 3)) t := fun t k => a0s t (by
      show Steps p.tables e below (s₁.setTop (mkF m 0 #[.val (.int p1), .val (.long q2), .second] [])) _
      refine XS.iloadN X0.here hx rfl (hb hby d1_0) rfl ?_
      exact k)
  by_cases hp : p1 = (0 : Int32)
  ·
    have ac2 : ∀ t, Steps p.tables e below (s₁.setTop (mkF m 16 #[.val (.int p1), .val (.long q2), .second] [(.int (0 : Int32))])) t → Steps p.tables e below (s₁.setTop (entryFrame m #[(.int p1), (.long q2)] 3)) t := fun t k => ac1 t (by
        show Steps p.tables e below (s₁.setTop (mkF m 1 #[.val (.int p1), .val (.long q2), .second] [(.int p1)])) _
        refine XS.ifYes X0.here hx rfl (pc0 := 1) (pc' := 15) rfl (hb hby d1_1) rfl ((if0 _ _).trans (teq hp).1) (by decide) (by decide) ?_
        show Steps p.tables e below (s₁.setTop (mkF m 15 #[.val (.int p1), .val (.long q2), .second] [])) _
        refine XS.iconst X0.here hx rfl (hb hby d1_15) ?_
        exact k)
    obtain ⟨fs, hr, hrun, hended, hW, hsame⟩ := X0.leave (v := some (.int (0 : Int32))) (fun h => by rw [Bd.returns] at h; cases h)
    refine ⟨_, _, ac2 _ ?_, hrun, hended, _, _, rfl, ?_, ⟨_, rfl⟩, hW, hsame.mono (by decide) (by decide)⟩
    · show Steps p.tables e below (s₁.setTop (mkF m 16 #[.val (.int p1), .val (.long q2), .second] [(.int (0 : Int32))])) _
      exact retN X0 hx (t := .boolean) Bd.returns (by simp) (hb hby d1_16) hr
    · show Q1 Z p1 q2 h0 n0 _ s₁.heap _
      rw [e0]
      exact ⟨(congrArg (fun z => some (Value.int z)) (own_isLeaf_0 q2 hp)).symm, N0, rfl⟩
  ·
    have ac3 : ∀ t, Steps p.tables e below (s₁.setTop (mkF m 5 #[.val (.int p1), .val (.long q2), .second] [(.long q2)])) t → Steps p.tables e below (s₁.setTop (entryFrame m #[(.int p1), (.long q2)] 3)) t := fun t k => ac1 t (by
        show Steps p.tables e below (s₁.setTop (mkF m 1 #[.val (.int p1), .val (.long q2), .second] [(.int p1)])) _
        refine XS.ifNo X0.here hx rfl (hb hby d1_1) rfl ((if0 _ _).trans (feq hp).1) ?_
        show Steps p.tables e below (s₁.setTop (mkF m 4 #[.val (.int p1), .val (.long q2), .second] [])) _
        refine XS.lloadN X0.here hx rfl (hb hby d1_4) rfl ?_
        exact k)
    obtain ⟨_, _, ⟨T4, L4, k4, n4⟩, -, X4, ⟨Lc4, hQ4, l4, y4, z4⟩, st4⟩ := Jvm.LawKit.callS X0 hx (y := (⟨"com/example/twinbase/twinbase/DoubleArray", "check", "(J)I"⟩ : MethodName)) hown (mvT hZ (hw _ (List.mem_of_getElem? (i := 16) rfl))) (mvT hZ (hw _ (List.mem_of_getElem? (i := 17) rfl))) (mvT hZ (hw _ (List.mem_of_getElem? (i := 4) rfl))) (mvT hZ (hw _ (List.mem_of_getElem? (i := 18) rfl))) (by decide) (backOf (W := 0) (rm5 l Z a0 hw [] q2  h0 n0 Z0 ) hZ (hw _ (List.mem_of_getElem? (i := 18) rfl)) (hw _ (List.mem_of_getElem? (i := 4) rfl)) (by decide) (by decide)) (g := (mkF m 5 #[.val (.int p1), .val (.long q2), .second] [(.long q2)])) rfl (by rw [hml]; rfl) (argsL := [(.long q2)]) (rest := []) (lenOf pd_2 rfl) rfl (by show 2 * 0 + _ ≤ _; exact Nat.le_of_eq rfl) (hb hby d1_5) (fun _ _ => ⟨rfl, e0, (by decide : 0 + 0 ≤ _), (by decide : 0 + 0 ≤ _)⟩)
    dsimp only [Pt.U, Pt.locs, Pt.cells, Pt.slots] at X4 l4 y4 z4 st4 hQ4
    subst l4 y4 z4
    obtain ⟨rfl, N4q, Qe4⟩ := hQ4
    have N4 := Fr.app N0 N4q
    have ac5 : ∀ t, Steps p.tables e below (T4.setTop (mkF m 8 #[.val (.int p1), .val (.long q2), .second] [(.int (own_check q2))])) t → Steps p.tables e below (s₁.setTop (entryFrame m #[(.int p1), (.long q2)] 3)) t := fun t k => ac3 t (st4 t k)
    by_cases hq : (own_check q2) < (0 : Int32)
    ·
      have ac6 : ∀ t, Steps p.tables e below (T4.setTop (mkF m 16 #[.val (.int p1), .val (.long q2), .second] [(.int (1 : Int32))])) t → Steps p.tables e below (s₁.setTop (entryFrame m #[(.int p1), (.long q2)] 3)) t := fun t k => ac5 t (by
          show Steps p.tables e below (T4.setTop (mkF m 8 #[.val (.int p1), .val (.long q2), .second] [(.int (own_check q2))])) _
          refine XS.ifNo X4.here hx rfl (hb hby d1_8) rfl ((if0 _ _).trans (tlt hq).2.1) ?_
          show Steps p.tables e below (T4.setTop (mkF m 11 #[.val (.int p1), .val (.long q2), .second] [])) _
          refine XS.iconst X4.here hx rfl (hb hby d1_11) ?_
          show Steps p.tables e below (T4.setTop (mkF m 12 #[.val (.int p1), .val (.long q2), .second] [(.int (1 : Int32))])) _
          refine XS.goto X4.here hx rfl (pc0 := 12) (pc' := 16) rfl (hb hby d1_12) (by decide) (by decide) ?_
          exact k)
      obtain ⟨fs, hr, hrun, hended, hW, hsame⟩ := X4.leave (v := some (.int (1 : Int32))) (fun h => by rw [Bd.returns] at h; cases h)
      refine ⟨_, _, ac6 _ ?_, hrun, hended, _, _, rfl, ?_, ⟨_, rfl⟩, hW, hsame.mono (by decide) (by decide)⟩
      · show Steps p.tables e below (T4.setTop (mkF m 16 #[.val (.int p1), .val (.long q2), .second] [(.int (1 : Int32))])) _
        exact retN X4 hx (t := .boolean) Bd.returns (by simp) (hb hby d1_16) hr
      · show Q1 Z p1 q2 h0 n0 _ T4.heap _
        rw [Qe4]
        exact ⟨(congrArg (fun z => some (Value.int z)) (own_isLeaf_t hp hq)).symm, N4, rfl⟩
    ·
      have ac7 : ∀ t, Steps p.tables e below (T4.setTop (mkF m 16 #[.val (.int p1), .val (.long q2), .second] [(.int (0 : Int32))])) t → Steps p.tables e below (s₁.setTop (entryFrame m #[(.int p1), (.long q2)] 3)) t := fun t k => ac5 t (by
          show Steps p.tables e below (T4.setTop (mkF m 8 #[.val (.int p1), .val (.long q2), .second] [(.int (own_check q2))])) _
          refine XS.ifYes X4.here hx rfl (pc0 := 8) (pc' := 15) rfl (hb hby d1_8) rfl ((if0 _ _).trans (flt hq).2.1) (by decide) (by decide) ?_
          show Steps p.tables e below (T4.setTop (mkF m 15 #[.val (.int p1), .val (.long q2), .second] [])) _
          refine XS.iconst X4.here hx rfl (hb hby d1_15) ?_
          exact k)
      obtain ⟨fs, hr, hrun, hended, hW, hsame⟩ := X4.leave (v := some (.int (0 : Int32))) (fun h => by rw [Bd.returns] at h; cases h)
      refine ⟨_, _, ac7 _ ?_, hrun, hended, _, _, rfl, ?_, ⟨_, rfl⟩, hW, hsame.mono (by decide) (by decide)⟩
      · show Steps p.tables e below (T4.setTop (mkF m 16 #[.val (.int p1), .val (.long q2), .second] [(.int (0 : Int32))])) _
        exact retN X4 hx (t := .boolean) Bd.returns (by simp) (hb hby d1_16) hr
      · show Q1 Z p1 q2 h0 n0 _ T4.heap _
        rw [Qe4]
        exact ⟨(congrArg (fun z => some (Value.int z)) (own_isLeaf_f hq)).symm, N4, rfl⟩
theorem ef_rm0 (m : MethodId) (x0 : Int32) (x1 : Int64) (x2 : Int32) (x3 : Int32) : entryFrame m #[(.int x0), (.long x1), (.int x2), (.int x3)] maxLocals = mkF m 0 #[.val (.int x0), .val (.long x1), .second, .val (.int x2), .val (.int x3), .unset, .unset, .unset, .unset] [] := by first | (simp [entryFrame, mkF, argsToLocals, Value.category, maxLocals]; done) | rfl
def Q0 (Z : State) (p1 : Int32) (q2 : Int64) (p3 : Int32) (p4 : Int32) (h0 : Heap) (n0 : Nat) (v : Option Value) (h : Heap) (L : List Loc) : Prop := v = some (.int 1) ∧ Fr n0 L
set_option maxRecDepth 65536 in
set_option maxHeartbeats 40000000 in
theorem rm0 (l : Launch) (Z : State) (a0 : Array Value) (hw : ∀ d ∈ tables_1, d.before a0 Z = true) (ws : List Jvm.Cond) (p1 : Int32) (q2 : Int64) (p3 : Int32) (p4 : Int32) (h0 : Heap) (n0 : Nat) (Z0 : n0 ≤ h0.size) :
    MetFree l x (head1 (Jvm.Cond.code x code maxLocals ret :: ws) room_1) (fun a U => a = #[(.int p1), (.long q2), (.int p3), (.int p4)] ∧ Z.Warmed39 U.vm ∧ U.heap = h0) (fun _ _ _ _ _ => True) (fun _ U o U' => ∃ v L, o = .returned v ∧ Q0 Z p1 q2 p3 p4 h0 n0 v U'.heap L ∧ FrameEnd U o U' L room_1.cells room_1.slots) := by
  refine MetFree.of_bodySF (plainFor_of_name pn_0) hisR ?_
  intro p e s m args below meth c s₁ Bd hml0 hP hK
  obtain ⟨rfl, hZ, hh⟩ := hP
  have hx := Bd.exec
  have hby := Bd.bytes
  have hml : c.maxLocals = 9 := hml0
  have hown : s.vm.findClass "com/example/twinbase/twinbase/DoubleArrayIsLeafPinLaw" = some m.cls := findClass_of_methodNamed Bd.named
  have hnm := (name_of_methodNamed Bd.named Bd.method).1
  have X0 : Stand p l e room_1 s m #[(.int p1), (.long q2), (.int p3), (.int p4)] below meth c s₁ [] 0 0 := Stand.of_body Bd
  have e0 : s₁.heap = h0 := by rw [← hh, Bd.state]; rfl
  have N0 := Fr.nil n0
  have a0s : ∀ t, Steps p.tables e below (s₁.setTop (mkF m 0 #[.val (.int p1), .val (.long q2), .second, .val (.int p3), .val (.int p4), .unset, .unset, .unset, .unset] [])) t → Steps p.tables e below (s₁.setTop (entryFrame m #[(.int p1), (.long q2), (.int p3), (.int p4)] maxLocals)) t := fun t k => castTop (ef_rm0 m p1 q2 p3 p4) k
  have ac1 : ∀ t, Steps p.tables e below (s₁.setTop (mkF m 11 #[.val (.int p1), .val (.long q2), .second, .val (.int p3), .val (.int p4), .val (.int ((p3 &&& (2147483647 : Int32)) % (2147483646 : Int32))), .unset, .unset, .unset] [(.long q2), (.int p1)])) t → Steps p.tables e below (s₁.setTop (entryFrame m #[(.int p1), (.long q2), (.int p3), (.int p4)] maxLocals)) t := fun t k => a0s t (by
      show Steps p.tables e below (s₁.setTop (mkF m 0 #[.val (.int p1), .val (.long q2), .second, .val (.int p3), .val (.int p4), .unset, .unset, .unset, .unset] [])) _
      refine XS.iloadN X0.here hx rfl (hb hby at_0) rfl ?_
      show Steps p.tables e below (s₁.setTop (mkF m 1 #[.val (.int p1), .val (.long q2), .second, .val (.int p3), .val (.int p4), .unset, .unset, .unset, .unset] [(.int p3)])) _
      refine X0.ldcInt hx hown (mvT hZ (hw _ (List.mem_of_getElem? (i := 0) rfl))) (g := (mkF m 1 #[.val (.int p1), .val (.long q2), .second, .val (.int p3), .val (.int p4), .unset, .unset, .unset, .unset] [(.int p3)])) rfl (hb hby at_1) _ ?_
      show Steps p.tables e below (s₁.setTop (mkF m 3 #[.val (.int p1), .val (.long q2), .second, .val (.int p3), .val (.int p4), .unset, .unset, .unset, .unset] [(.int (2147483647 : Int32)), (.int p3)])) _
      refine XS.iand X0.here hx rfl (hb hby at_3) rfl ?_
      show Steps p.tables e below (s₁.setTop (mkF m 4 #[.val (.int p1), .val (.long q2), .second, .val (.int p3), .val (.int p4), .unset, .unset, .unset, .unset] [(.int (p3 &&& (2147483647 : Int32)))])) _
      refine X0.ldcInt hx hown (mvT hZ (hw _ (List.mem_of_getElem? (i := 1) rfl))) (g := (mkF m 4 #[.val (.int p1), .val (.long q2), .second, .val (.int p3), .val (.int p4), .unset, .unset, .unset, .unset] [(.int (p3 &&& (2147483647 : Int32)))])) rfl (hb hby at_4) _ ?_
      show Steps p.tables e below (s₁.setTop (mkF m 6 #[.val (.int p1), .val (.long q2), .second, .val (.int p3), .val (.int p4), .unset, .unset, .unset, .unset] [(.int (2147483646 : Int32)), (.int (p3 &&& (2147483647 : Int32)))])) _
      refine iremM X0 hx rfl (hb hby at_6) rfl (by decide) ?_
      show Steps p.tables e below (s₁.setTop (mkF m 7 #[.val (.int p1), .val (.long q2), .second, .val (.int p3), .val (.int p4), .unset, .unset, .unset, .unset] [(.int ((p3 &&& (2147483647 : Int32)) % (2147483646 : Int32)))])) _
      refine XS.istore X0.here hx rfl (hb hby at_7) rfl (l' := #[.val (.int p1), .val (.long q2), .second, .val (.int p3), .val (.int p4), .val (.int ((p3 &&& (2147483647 : Int32)) % (2147483646 : Int32))), .unset, .unset, .unset]) rfl ?_
      show Steps p.tables e below (s₁.setTop (mkF m 9 #[.val (.int p1), .val (.long q2), .second, .val (.int p3), .val (.int p4), .val (.int ((p3 &&& (2147483647 : Int32)) % (2147483646 : Int32))), .unset, .unset, .unset] [])) _
      refine XS.iloadN X0.here hx rfl (hb hby at_9) rfl ?_
      show Steps p.tables e below (s₁.setTop (mkF m 10 #[.val (.int p1), .val (.long q2), .second, .val (.int p3), .val (.int p4), .val (.int ((p3 &&& (2147483647 : Int32)) % (2147483646 : Int32))), .unset, .unset, .unset] [(.int p1)])) _
      refine XS.lloadN X0.here hx rfl (hb hby at_10) rfl ?_
      exact k)
  obtain ⟨_, _, ⟨T2, L2, k2, n2⟩, -, X2, ⟨Lc2, hQ2, l2, y2, z2⟩, st2⟩ := Jvm.LawKit.callS X0 hx (y := (⟨"com/example/twinbase/twinbase/DoubleArray", "isLeaf", "(IJ)Z"⟩ : MethodName)) hown (mvT hZ (hw _ (List.mem_of_getElem? (i := 2) rfl))) (mvT hZ (hw _ (List.mem_of_getElem? (i := 3) rfl))) (mvT hZ (hw _ (List.mem_of_getElem? (i := 4) rfl))) (mvT hZ (hw _ (List.mem_of_getElem? (i := 5) rfl))) (by decide) (backOf (W := 0) (rm1 l Z a0 hw [] p1 q2  h0 n0 Z0 ) hZ (hw _ (List.mem_of_getElem? (i := 5) rfl)) (hw _ (List.mem_of_getElem? (i := 4) rfl)) (by decide) (by decide)) (g := (mkF m 11 #[.val (.int p1), .val (.long q2), .second, .val (.int p3), .val (.int p4), .val (.int ((p3 &&& (2147483647 : Int32)) % (2147483646 : Int32))), .unset, .unset, .unset] [(.long q2), (.int p1)])) rfl (by rw [hml]; rfl) (argsL := [(.int p1), (.long q2)]) (rest := []) (lenOf pd_0 rfl) rfl (by show 2 * 0 + _ ≤ _; exact Nat.le_of_eq rfl) (hb hby at_11) (fun _ _ => ⟨rfl, e0, (by decide : 0 + 0 ≤ _), (by decide : 0 + 0 ≤ _)⟩)
  dsimp only [Pt.U, Pt.locs, Pt.cells, Pt.slots] at X2 l2 y2 z2 st2 hQ2
  subst l2 y2 z2
  obtain ⟨rfl, N2q, Qe2⟩ := hQ2
  have N2 := Fr.app N0 N2q
  have ac3 : ∀ t, Steps p.tables e below (T2.setTop (mkF m 14 #[.val (.int p1), .val (.long q2), .second, .val (.int p3), .val (.int p4), .val (.int ((p3 &&& (2147483647 : Int32)) % (2147483646 : Int32))), .unset, .unset, .unset] [(.int (own_isLeaf p1 q2))])) t → Steps p.tables e below (s₁.setTop (entryFrame m #[(.int p1), (.long q2), (.int p3), (.int p4)] maxLocals)) t := fun t k => ac1 t (st2 t k)
  have ac4 : ∀ t, Steps p.tables e below (T2.setTop (mkF m 15 #[.val (.int p1), .val (.long q2), .second, .val (.int p3), .val (.int p4), .val (.int ((p3 &&& (2147483647 : Int32)) % (2147483646 : Int32))), .unset, .unset, .unset] [(.int p1), (.int (own_isLeaf p1 q2))])) t → Steps p.tables e below (s₁.setTop (entryFrame m #[(.int p1), (.long q2), (.int p3), (.int p4)] maxLocals)) t := fun t k => ac3 t (by
      show Steps p.tables e below (T2.setTop (mkF m 14 #[.val (.int p1), .val (.long q2), .second, .val (.int p3), .val (.int p4), .val (.int ((p3 &&& (2147483647 : Int32)) % (2147483646 : Int32))), .unset, .unset, .unset] [(.int (own_isLeaf p1 q2))])) _
      refine XS.iloadN X2.here hx rfl (hb hby at_14) rfl ?_
      exact k)
  have ac5 : ∀ t, Steps p.tables e below (T2.setTop (mkF m 37 #[.val (.int p1), .val (.long q2), .second, .val (.int p3), .val (.int p4), .val (.int ((p3 &&& (2147483647 : Int32)) % (2147483646 : Int32))), .unset, .unset, .unset] [(.int (1 : Int32))])) t → Steps p.tables e below (s₁.setTop (entryFrame m #[(.int p1), (.long q2), (.int p3), (.int p4)] maxLocals)) t := fun t k => ac4 t (by
      by_cases hp : p1 = (0 : Int32)
      ·
        show Steps p.tables e below (T2.setTop (mkF m 15 #[.val (.int p1), .val (.long q2), .second, .val (.int p3), .val (.int p4), .val (.int ((p3 &&& (2147483647 : Int32)) % (2147483646 : Int32))), .unset, .unset, .unset] [(.int p1), (.int (own_isLeaf p1 q2))])) _
        refine XS.ifYes X2.here hx rfl (pc0 := 15) (pc' := 28) rfl (hb hby at_15) rfl ((if0 _ _).trans (teq hp).1) (by decide) (by decide) ?_
        show Steps p.tables e below (T2.setTop (mkF m 28 #[.val (.int p1), .val (.long q2), .second, .val (.int p3), .val (.int p4), .val (.int ((p3 &&& (2147483647 : Int32)) % (2147483646 : Int32))), .unset, .unset, .unset] [(.int (own_isLeaf p1 q2))])) _
        refine XS.iconst X2.here hx rfl (hb hby at_28) ?_
        show Steps p.tables e below (T2.setTop (mkF m 29 #[.val (.int p1), .val (.long q2), .second, .val (.int p3), .val (.int p4), .val (.int ((p3 &&& (2147483647 : Int32)) % (2147483646 : Int32))), .unset, .unset, .unset] [(.int (0 : Int32)), (.int (own_isLeaf p1 q2))])) _
        refine XS.icmpNo X2.here hx rfl (hb hby at_29) rfl (teq (own_isLeaf_0 q2 hp)).2 ?_
        show Steps p.tables e below (T2.setTop (mkF m 32 #[.val (.int p1), .val (.long q2), .second, .val (.int p3), .val (.int p4), .val (.int ((p3 &&& (2147483647 : Int32)) % (2147483646 : Int32))), .unset, .unset, .unset] [])) _
        refine XS.iconst X2.here hx rfl (hb hby at_32) ?_
        show Steps p.tables e below (T2.setTop (mkF m 33 #[.val (.int p1), .val (.long q2), .second, .val (.int p3), .val (.int p4), .val (.int ((p3 &&& (2147483647 : Int32)) % (2147483646 : Int32))), .unset, .unset, .unset] [(.int (1 : Int32))])) _
        refine XS.goto X2.here hx rfl (pc0 := 33) (pc' := 37) rfl (hb hby at_33) (by decide) (by decide) ?_
        exact k
      ·
        show Steps p.tables e below (T2.setTop (mkF m 15 #[.val (.int p1), .val (.long q2), .second, .val (.int p3), .val (.int p4), .val (.int ((p3 &&& (2147483647 : Int32)) % (2147483646 : Int32))), .unset, .unset, .unset] [(.int p1), (.int (own_isLeaf p1 q2))])) _
        refine XS.ifNo X2.here hx rfl (hb hby at_15) rfl ((if0 _ _).trans (feq hp).1) ?_
        show Steps p.tables e below (T2.setTop (mkF m 18 #[.val (.int p1), .val (.long q2), .second, .val (.int p3), .val (.int p4), .val (.int ((p3 &&& (2147483647 : Int32)) % (2147483646 : Int32))), .unset, .unset, .unset] [(.int (own_isLeaf p1 q2))])) _
        refine XS.lloadN X2.here hx rfl (hb hby at_18) rfl ?_
        show Steps p.tables e below (T2.setTop (mkF m 19 #[.val (.int p1), .val (.long q2), .second, .val (.int p3), .val (.int p4), .val (.int ((p3 &&& (2147483647 : Int32)) % (2147483646 : Int32))), .unset, .unset, .unset] [(.long q2), (.int (own_isLeaf p1 q2))])) _
        refine XS.lconst X2.here hx rfl (hb hby at_19) ?_
        show Steps p.tables e below (T2.setTop (mkF m 20 #[.val (.int p1), .val (.long q2), .second, .val (.int p3), .val (.int p4), .val (.int ((p3 &&& (2147483647 : Int32)) % (2147483646 : Int32))), .unset, .unset, .unset] [(.long (0 : Int64)), (.long q2), (.int (own_isLeaf p1 q2))])) _
        refine XS.lcmp X2.here hx rfl (hb hby at_20) rfl ?_
        by_cases hq : q2 < (0 : Int64)
        ·
          show Steps p.tables e below (T2.setTop (mkF m 21 #[.val (.int p1), .val (.long q2), .second, .val (.int p3), .val (.int p4), .val (.int ((p3 &&& (2147483647 : Int32)) % (2147483646 : Int32))), .unset, .unset, .unset] [(.int (lcmpW q2 (0 : Int64))), (.int (own_isLeaf p1 q2))])) _
          refine XS.ifNo X2.here hx rfl (hb hby at_21) rfl ((if0 _ _).trans (tlt ((lw_lt _ _).mpr hq)).2.1) ?_
          show Steps p.tables e below (T2.setTop (mkF m 24 #[.val (.int p1), .val (.long q2), .second, .val (.int p3), .val (.int p4), .val (.int ((p3 &&& (2147483647 : Int32)) % (2147483646 : Int32))), .unset, .unset, .unset] [(.int (own_isLeaf p1 q2))])) _
          refine XS.iconst X2.here hx rfl (hb hby at_24) ?_
          show Steps p.tables e below (T2.setTop (mkF m 25 #[.val (.int p1), .val (.long q2), .second, .val (.int p3), .val (.int p4), .val (.int ((p3 &&& (2147483647 : Int32)) % (2147483646 : Int32))), .unset, .unset, .unset] [(.int (1 : Int32)), (.int (own_isLeaf p1 q2))])) _
          refine XS.goto X2.here hx rfl (pc0 := 25) (pc' := 29) rfl (hb hby at_25) (by decide) (by decide) ?_
          show Steps p.tables e below (T2.setTop (mkF m 29 #[.val (.int p1), .val (.long q2), .second, .val (.int p3), .val (.int p4), .val (.int ((p3 &&& (2147483647 : Int32)) % (2147483646 : Int32))), .unset, .unset, .unset] [(.int (1 : Int32)), (.int (own_isLeaf p1 q2))])) _
          refine XS.icmpNo X2.here hx rfl (hb hby at_29) rfl (teq (own_isLeaf_t hp ((own_check_lt q2).mpr hq))).2 ?_
          show Steps p.tables e below (T2.setTop (mkF m 32 #[.val (.int p1), .val (.long q2), .second, .val (.int p3), .val (.int p4), .val (.int ((p3 &&& (2147483647 : Int32)) % (2147483646 : Int32))), .unset, .unset, .unset] [])) _
          refine XS.iconst X2.here hx rfl (hb hby at_32) ?_
          show Steps p.tables e below (T2.setTop (mkF m 33 #[.val (.int p1), .val (.long q2), .second, .val (.int p3), .val (.int p4), .val (.int ((p3 &&& (2147483647 : Int32)) % (2147483646 : Int32))), .unset, .unset, .unset] [(.int (1 : Int32))])) _
          refine XS.goto X2.here hx rfl (pc0 := 33) (pc' := 37) rfl (hb hby at_33) (by decide) (by decide) ?_
          exact k
        ·
          show Steps p.tables e below (T2.setTop (mkF m 21 #[.val (.int p1), .val (.long q2), .second, .val (.int p3), .val (.int p4), .val (.int ((p3 &&& (2147483647 : Int32)) % (2147483646 : Int32))), .unset, .unset, .unset] [(.int (lcmpW q2 (0 : Int64))), (.int (own_isLeaf p1 q2))])) _
          refine XS.ifYes X2.here hx rfl (pc0 := 21) (pc' := 28) rfl (hb hby at_21) rfl ((if0 _ _).trans (flt (mt (lw_lt _ _).mp hq)).2.1) (by decide) (by decide) ?_
          show Steps p.tables e below (T2.setTop (mkF m 28 #[.val (.int p1), .val (.long q2), .second, .val (.int p3), .val (.int p4), .val (.int ((p3 &&& (2147483647 : Int32)) % (2147483646 : Int32))), .unset, .unset, .unset] [(.int (own_isLeaf p1 q2))])) _
          refine XS.iconst X2.here hx rfl (hb hby at_28) ?_
          show Steps p.tables e below (T2.setTop (mkF m 29 #[.val (.int p1), .val (.long q2), .second, .val (.int p3), .val (.int p4), .val (.int ((p3 &&& (2147483647 : Int32)) % (2147483646 : Int32))), .unset, .unset, .unset] [(.int (0 : Int32)), (.int (own_isLeaf p1 q2))])) _
          refine XS.icmpNo X2.here hx rfl (hb hby at_29) rfl (teq (own_isLeaf_f (mt (own_check_lt q2).mp hq))).2 ?_
          show Steps p.tables e below (T2.setTop (mkF m 32 #[.val (.int p1), .val (.long q2), .second, .val (.int p3), .val (.int p4), .val (.int ((p3 &&& (2147483647 : Int32)) % (2147483646 : Int32))), .unset, .unset, .unset] [])) _
          refine XS.iconst X2.here hx rfl (hb hby at_32) ?_
          show Steps p.tables e below (T2.setTop (mkF m 33 #[.val (.int p1), .val (.long q2), .second, .val (.int p3), .val (.int p4), .val (.int ((p3 &&& (2147483647 : Int32)) % (2147483646 : Int32))), .unset, .unset, .unset] [(.int (1 : Int32))])) _
          refine XS.goto X2.here hx rfl (pc0 := 33) (pc' := 37) rfl (hb hby at_33) (by decide) (by decide) ?_
          exact k)
  have ac6 : ∀ t, Steps p.tables e below (T2.setTop (mkF m 44 #[.val (.int p1), .val (.long q2), .second, .val (.int p3), .val (.int p4), .val (.int ((p3 &&& (2147483647 : Int32)) % (2147483646 : Int32))), .val (.int (1 : Int32)), .unset, .unset] [(.int p4), (.int ((p3 &&& (2147483647 : Int32)) % (2147483646 : Int32))), (.int p1)])) t → Steps p.tables e below (s₁.setTop (entryFrame m #[(.int p1), (.long q2), (.int p3), (.int p4)] maxLocals)) t := fun t k => ac5 t (by
      show Steps p.tables e below (T2.setTop (mkF m 37 #[.val (.int p1), .val (.long q2), .second, .val (.int p3), .val (.int p4), .val (.int ((p3 &&& (2147483647 : Int32)) % (2147483646 : Int32))), .unset, .unset, .unset] [(.int (1 : Int32))])) _
      refine XS.istore X2.here hx rfl (hb hby at_37) rfl (l' := #[.val (.int p1), .val (.long q2), .second, .val (.int p3), .val (.int p4), .val (.int ((p3 &&& (2147483647 : Int32)) % (2147483646 : Int32))), .val (.int (1 : Int32)), .unset, .unset]) rfl ?_
      show Steps p.tables e below (T2.setTop (mkF m 39 #[.val (.int p1), .val (.long q2), .second, .val (.int p3), .val (.int p4), .val (.int ((p3 &&& (2147483647 : Int32)) % (2147483646 : Int32))), .val (.int (1 : Int32)), .unset, .unset] [])) _
      refine XS.iloadN X2.here hx rfl (hb hby at_39) rfl ?_
      show Steps p.tables e below (T2.setTop (mkF m 40 #[.val (.int p1), .val (.long q2), .second, .val (.int p3), .val (.int p4), .val (.int ((p3 &&& (2147483647 : Int32)) % (2147483646 : Int32))), .val (.int (1 : Int32)), .unset, .unset] [(.int p1)])) _
      refine XS.iload X2.here hx rfl (hb hby at_40) rfl ?_
      show Steps p.tables e below (T2.setTop (mkF m 42 #[.val (.int p1), .val (.long q2), .second, .val (.int p3), .val (.int p4), .val (.int ((p3 &&& (2147483647 : Int32)) % (2147483646 : Int32))), .val (.int (1 : Int32)), .unset, .unset] [(.int ((p3 &&& (2147483647 : Int32)) % (2147483646 : Int32))), (.int p1)])) _
      refine XS.iload X2.here hx rfl (hb hby at_42) rfl ?_
      exact k)
  obtain ⟨_, _, ⟨T7, L7, k7, n7⟩, -, X7, ⟨Lc7, hQ7, l7, y7, z7⟩, st7⟩ := Jvm.LawKit.callS X2 hx (y := (⟨"com/example/twinbase/twinbase/DoubleArray", "leaf", "(II)J"⟩ : MethodName)) hown (mvT hZ (hw _ (List.mem_of_getElem? (i := 6) rfl))) (mvT hZ (hw _ (List.mem_of_getElem? (i := 7) rfl))) (mvT hZ (hw _ (List.mem_of_getElem? (i := 4) rfl))) (mvT hZ (hw _ (List.mem_of_getElem? (i := 8) rfl))) (by decide) (backOf (W := 1) (rm2 l Z a0 hw [] ((p3 &&& (2147483647 : Int32)) % (2147483646 : Int32)) p4  h0 n0 Z0 ) hZ (hw _ (List.mem_of_getElem? (i := 8) rfl)) (hw _ (List.mem_of_getElem? (i := 4) rfl)) (by decide) (by decide)) (g := (mkF m 44 #[.val (.int p1), .val (.long q2), .second, .val (.int p3), .val (.int p4), .val (.int ((p3 &&& (2147483647 : Int32)) % (2147483646 : Int32))), .val (.int (1 : Int32)), .unset, .unset] [(.int p4), (.int ((p3 &&& (2147483647 : Int32)) % (2147483646 : Int32))), (.int p1)])) rfl (by rw [hml]; rfl) (argsL := [(.int ((p3 &&& (2147483647 : Int32)) % (2147483646 : Int32))), (.int p4)]) (rest := [(.int p1)]) (lenOf pd_1 rfl) rfl (by show 2 * 0 + _ ≤ _; exact Nat.le_of_eq rfl) (hb hby at_44) (fun _ _ => ⟨rfl, Qe2, (by decide : 0 + 0 ≤ _), (by decide : 0 + 0 ≤ _)⟩)
  dsimp only [Pt.U, Pt.locs, Pt.cells, Pt.slots] at X7 l7 y7 z7 st7 hQ7
  subst l7 y7 z7
  obtain ⟨rfl, N7q, Qe7⟩ := hQ7
  have N7 := Fr.app N2 N7q
  have ac8 : ∀ t, Steps p.tables e below (T7.setTop (mkF m 47 #[.val (.int p1), .val (.long q2), .second, .val (.int p3), .val (.int p4), .val (.int ((p3 &&& (2147483647 : Int32)) % (2147483646 : Int32))), .val (.int (1 : Int32)), .unset, .unset] [(.long (own_cell p4 (((p3 &&& (2147483647 : Int32)) % (2147483646 : Int32)) ^^^ (-1)))), (.int p1)])) t → Steps p.tables e below (s₁.setTop (entryFrame m #[(.int p1), (.long q2), (.int p3), (.int p4)] maxLocals)) t := fun t k => ac6 t (st7 t k)
  obtain ⟨_, _, ⟨T9, L9, k9, n9⟩, -, X9, ⟨Lc9, hQ9, l9, y9, z9⟩, st9⟩ := Jvm.LawKit.callS X7 hx (y := (⟨"com/example/twinbase/twinbase/DoubleArray", "isLeaf", "(IJ)Z"⟩ : MethodName)) hown (mvT hZ (hw _ (List.mem_of_getElem? (i := 2) rfl))) (mvT hZ (hw _ (List.mem_of_getElem? (i := 3) rfl))) (mvT hZ (hw _ (List.mem_of_getElem? (i := 4) rfl))) (mvT hZ (hw _ (List.mem_of_getElem? (i := 5) rfl))) (by decide) (backOf (W := 0) (rm1 l Z a0 hw [] p1 (own_cell p4 (((p3 &&& (2147483647 : Int32)) % (2147483646 : Int32)) ^^^ (-1)))  h0 n0 Z0 ) hZ (hw _ (List.mem_of_getElem? (i := 5) rfl)) (hw _ (List.mem_of_getElem? (i := 4) rfl)) (by decide) (by decide)) (g := (mkF m 47 #[.val (.int p1), .val (.long q2), .second, .val (.int p3), .val (.int p4), .val (.int ((p3 &&& (2147483647 : Int32)) % (2147483646 : Int32))), .val (.int (1 : Int32)), .unset, .unset] [(.long (own_cell p4 (((p3 &&& (2147483647 : Int32)) % (2147483646 : Int32)) ^^^ (-1)))), (.int p1)])) rfl (by rw [hml]; rfl) (argsL := [(.int p1), (.long (own_cell p4 (((p3 &&& (2147483647 : Int32)) % (2147483646 : Int32)) ^^^ (-1))))]) (rest := []) (lenOf pd_0 rfl) rfl (by show 2 * 0 + _ ≤ _; exact Nat.le_of_eq rfl) (hb hby at_47) (fun _ _ => ⟨rfl, Qe7, (by decide : 0 + 0 ≤ _), (by decide : 0 + 0 ≤ _)⟩)
  dsimp only [Pt.U, Pt.locs, Pt.cells, Pt.slots] at X9 l9 y9 z9 st9 hQ9
  subst l9 y9 z9
  obtain ⟨rfl, N9q, Qe9⟩ := hQ9
  have N9 := Fr.app N7 N9q
  have ac10 : ∀ t, Steps p.tables e below (T9.setTop (mkF m 50 #[.val (.int p1), .val (.long q2), .second, .val (.int p3), .val (.int p4), .val (.int ((p3 &&& (2147483647 : Int32)) % (2147483646 : Int32))), .val (.int (1 : Int32)), .unset, .unset] [(.int (own_isLeaf p1 (own_cell p4 (((p3 &&& (2147483647 : Int32)) % (2147483646 : Int32)) ^^^ (-1)))))])) t → Steps p.tables e below (s₁.setTop (entryFrame m #[(.int p1), (.long q2), (.int p3), (.int p4)] maxLocals)) t := fun t k => ac8 t (st9 t k)
  have ac11 : ∀ t, Steps p.tables e below (T9.setTop (mkF m 51 #[.val (.int p1), .val (.long q2), .second, .val (.int p3), .val (.int p4), .val (.int ((p3 &&& (2147483647 : Int32)) % (2147483646 : Int32))), .val (.int (1 : Int32)), .unset, .unset] [(.int p1), (.int (own_isLeaf p1 (own_cell p4 (((p3 &&& (2147483647 : Int32)) % (2147483646 : Int32)) ^^^ (-1)))))])) t → Steps p.tables e below (s₁.setTop (entryFrame m #[(.int p1), (.long q2), (.int p3), (.int p4)] maxLocals)) t := fun t k => ac10 t (by
      show Steps p.tables e below (T9.setTop (mkF m 50 #[.val (.int p1), .val (.long q2), .second, .val (.int p3), .val (.int p4), .val (.int ((p3 &&& (2147483647 : Int32)) % (2147483646 : Int32))), .val (.int (1 : Int32)), .unset, .unset] [(.int (own_isLeaf p1 (own_cell p4 (((p3 &&& (2147483647 : Int32)) % (2147483646 : Int32)) ^^^ (-1)))))])) _
      refine XS.iloadN X9.here hx rfl (hb hby at_50) rfl ?_
      exact k)
  have ac12 : ∀ t, Steps p.tables e below (T9.setTop (mkF m 67 #[.val (.int p1), .val (.long q2), .second, .val (.int p3), .val (.int p4), .val (.int ((p3 &&& (2147483647 : Int32)) % (2147483646 : Int32))), .val (.int (1 : Int32)), .unset, .unset] [(.int (1 : Int32))])) t → Steps p.tables e below (s₁.setTop (entryFrame m #[(.int p1), (.long q2), (.int p3), (.int p4)] maxLocals)) t := fun t k => ac11 t (by
      by_cases hp : p1 = (0 : Int32)
      ·
        show Steps p.tables e below (T9.setTop (mkF m 51 #[.val (.int p1), .val (.long q2), .second, .val (.int p3), .val (.int p4), .val (.int ((p3 &&& (2147483647 : Int32)) % (2147483646 : Int32))), .val (.int (1 : Int32)), .unset, .unset] [(.int p1), (.int (own_isLeaf p1 (own_cell p4 (((p3 &&& (2147483647 : Int32)) % (2147483646 : Int32)) ^^^ (-1)))))])) _
        refine XS.ifYes X9.here hx rfl (pc0 := 51) (pc' := 58) rfl (hb hby at_51) rfl ((if0 _ _).trans (teq hp).1) (by decide) (by decide) ?_
        show Steps p.tables e below (T9.setTop (mkF m 58 #[.val (.int p1), .val (.long q2), .second, .val (.int p3), .val (.int p4), .val (.int ((p3 &&& (2147483647 : Int32)) % (2147483646 : Int32))), .val (.int (1 : Int32)), .unset, .unset] [(.int (own_isLeaf p1 (own_cell p4 (((p3 &&& (2147483647 : Int32)) % (2147483646 : Int32)) ^^^ (-1)))))])) _
        refine XS.iconst X9.here hx rfl (hb hby at_58) ?_
        show Steps p.tables e below (T9.setTop (mkF m 59 #[.val (.int p1), .val (.long q2), .second, .val (.int p3), .val (.int p4), .val (.int ((p3 &&& (2147483647 : Int32)) % (2147483646 : Int32))), .val (.int (1 : Int32)), .unset, .unset] [(.int (0 : Int32)), (.int (own_isLeaf p1 (own_cell p4 (((p3 &&& (2147483647 : Int32)) % (2147483646 : Int32)) ^^^ (-1)))))])) _
        refine XS.icmpNo X9.here hx rfl (hb hby at_59) rfl (teq (own_isLeaf_0 _ hp)).2 ?_
        show Steps p.tables e below (T9.setTop (mkF m 62 #[.val (.int p1), .val (.long q2), .second, .val (.int p3), .val (.int p4), .val (.int ((p3 &&& (2147483647 : Int32)) % (2147483646 : Int32))), .val (.int (1 : Int32)), .unset, .unset] [])) _
        refine XS.iconst X9.here hx rfl (hb hby at_62) ?_
        show Steps p.tables e below (T9.setTop (mkF m 63 #[.val (.int p1), .val (.long q2), .second, .val (.int p3), .val (.int p4), .val (.int ((p3 &&& (2147483647 : Int32)) % (2147483646 : Int32))), .val (.int (1 : Int32)), .unset, .unset] [(.int (1 : Int32))])) _
        refine XS.goto X9.here hx rfl (pc0 := 63) (pc' := 67) rfl (hb hby at_63) (by decide) (by decide) ?_
        exact k
      ·
        show Steps p.tables e below (T9.setTop (mkF m 51 #[.val (.int p1), .val (.long q2), .second, .val (.int p3), .val (.int p4), .val (.int ((p3 &&& (2147483647 : Int32)) % (2147483646 : Int32))), .val (.int (1 : Int32)), .unset, .unset] [(.int p1), (.int (own_isLeaf p1 (own_cell p4 (((p3 &&& (2147483647 : Int32)) % (2147483646 : Int32)) ^^^ (-1)))))])) _
        refine XS.ifNo X9.here hx rfl (hb hby at_51) rfl ((if0 _ _).trans (feq hp).1) ?_
        show Steps p.tables e below (T9.setTop (mkF m 54 #[.val (.int p1), .val (.long q2), .second, .val (.int p3), .val (.int p4), .val (.int ((p3 &&& (2147483647 : Int32)) % (2147483646 : Int32))), .val (.int (1 : Int32)), .unset, .unset] [(.int (own_isLeaf p1 (own_cell p4 (((p3 &&& (2147483647 : Int32)) % (2147483646 : Int32)) ^^^ (-1)))))])) _
        refine XS.iconst X9.here hx rfl (hb hby at_54) ?_
        show Steps p.tables e below (T9.setTop (mkF m 55 #[.val (.int p1), .val (.long q2), .second, .val (.int p3), .val (.int p4), .val (.int ((p3 &&& (2147483647 : Int32)) % (2147483646 : Int32))), .val (.int (1 : Int32)), .unset, .unset] [(.int (1 : Int32)), (.int (own_isLeaf p1 (own_cell p4 (((p3 &&& (2147483647 : Int32)) % (2147483646 : Int32)) ^^^ (-1)))))])) _
        refine XS.goto X9.here hx rfl (pc0 := 55) (pc' := 59) rfl (hb hby at_55) (by decide) (by decide) ?_
        show Steps p.tables e below (T9.setTop (mkF m 59 #[.val (.int p1), .val (.long q2), .second, .val (.int p3), .val (.int p4), .val (.int ((p3 &&& (2147483647 : Int32)) % (2147483646 : Int32))), .val (.int (1 : Int32)), .unset, .unset] [(.int (1 : Int32)), (.int (own_isLeaf p1 (own_cell p4 (((p3 &&& (2147483647 : Int32)) % (2147483646 : Int32)) ^^^ (-1)))))])) _
        refine XS.icmpNo X9.here hx rfl (hb hby at_59) rfl (teq (own_isLeaf_t hp (own_leafpos p4 p3))).2 ?_
        show Steps p.tables e below (T9.setTop (mkF m 62 #[.val (.int p1), .val (.long q2), .second, .val (.int p3), .val (.int p4), .val (.int ((p3 &&& (2147483647 : Int32)) % (2147483646 : Int32))), .val (.int (1 : Int32)), .unset, .unset] [])) _
        refine XS.iconst X9.here hx rfl (hb hby at_62) ?_
        show Steps p.tables e below (T9.setTop (mkF m 63 #[.val (.int p1), .val (.long q2), .second, .val (.int p3), .val (.int p4), .val (.int ((p3 &&& (2147483647 : Int32)) % (2147483646 : Int32))), .val (.int (1 : Int32)), .unset, .unset] [(.int (1 : Int32))])) _
        refine XS.goto X9.here hx rfl (pc0 := 63) (pc' := 67) rfl (hb hby at_63) (by decide) (by decide) ?_
        exact k)
  have ac13 : ∀ t, Steps p.tables e below (T9.setTop (mkF m 74 #[.val (.int p1), .val (.long q2), .second, .val (.int p3), .val (.int p4), .val (.int ((p3 &&& (2147483647 : Int32)) % (2147483646 : Int32))), .val (.int (1 : Int32)), .val (.int (1 : Int32)), .unset] [(.int p4), (.int ((p3 &&& (2147483647 : Int32)) % (2147483646 : Int32))), (.int p1)])) t → Steps p.tables e below (s₁.setTop (entryFrame m #[(.int p1), (.long q2), (.int p3), (.int p4)] maxLocals)) t := fun t k => ac12 t (by
      show Steps p.tables e below (T9.setTop (mkF m 67 #[.val (.int p1), .val (.long q2), .second, .val (.int p3), .val (.int p4), .val (.int ((p3 &&& (2147483647 : Int32)) % (2147483646 : Int32))), .val (.int (1 : Int32)), .unset, .unset] [(.int (1 : Int32))])) _
      refine XS.istore X9.here hx rfl (hb hby at_67) rfl (l' := #[.val (.int p1), .val (.long q2), .second, .val (.int p3), .val (.int p4), .val (.int ((p3 &&& (2147483647 : Int32)) % (2147483646 : Int32))), .val (.int (1 : Int32)), .val (.int (1 : Int32)), .unset]) rfl ?_
      show Steps p.tables e below (T9.setTop (mkF m 69 #[.val (.int p1), .val (.long q2), .second, .val (.int p3), .val (.int p4), .val (.int ((p3 &&& (2147483647 : Int32)) % (2147483646 : Int32))), .val (.int (1 : Int32)), .val (.int (1 : Int32)), .unset] [])) _
      refine XS.iloadN X9.here hx rfl (hb hby at_69) rfl ?_
      show Steps p.tables e below (T9.setTop (mkF m 70 #[.val (.int p1), .val (.long q2), .second, .val (.int p3), .val (.int p4), .val (.int ((p3 &&& (2147483647 : Int32)) % (2147483646 : Int32))), .val (.int (1 : Int32)), .val (.int (1 : Int32)), .unset] [(.int p1)])) _
      refine XS.iload X9.here hx rfl (hb hby at_70) rfl ?_
      show Steps p.tables e below (T9.setTop (mkF m 72 #[.val (.int p1), .val (.long q2), .second, .val (.int p3), .val (.int p4), .val (.int ((p3 &&& (2147483647 : Int32)) % (2147483646 : Int32))), .val (.int (1 : Int32)), .val (.int (1 : Int32)), .unset] [(.int ((p3 &&& (2147483647 : Int32)) % (2147483646 : Int32))), (.int p1)])) _
      refine XS.iload X9.here hx rfl (hb hby at_72) rfl ?_
      exact k)
  obtain ⟨_, _, ⟨T14, L14, k14, n14⟩, -, X14, ⟨Lc14, hQ14, l14, y14, z14⟩, st14⟩ := Jvm.LawKit.callS X9 hx (y := (⟨"com/example/twinbase/twinbase/DoubleArray", "inner", "(II)J"⟩ : MethodName)) hown (mvT hZ (hw _ (List.mem_of_getElem? (i := 13) rfl))) (mvT hZ (hw _ (List.mem_of_getElem? (i := 14) rfl))) (mvT hZ (hw _ (List.mem_of_getElem? (i := 4) rfl))) (mvT hZ (hw _ (List.mem_of_getElem? (i := 15) rfl))) (by decide) (backOf (W := 1) (rm4 l Z a0 hw [] ((p3 &&& (2147483647 : Int32)) % (2147483646 : Int32)) p4  h0 n0 Z0 ) hZ (hw _ (List.mem_of_getElem? (i := 15) rfl)) (hw _ (List.mem_of_getElem? (i := 4) rfl)) (by decide) (by decide)) (g := (mkF m 74 #[.val (.int p1), .val (.long q2), .second, .val (.int p3), .val (.int p4), .val (.int ((p3 &&& (2147483647 : Int32)) % (2147483646 : Int32))), .val (.int (1 : Int32)), .val (.int (1 : Int32)), .unset] [(.int p4), (.int ((p3 &&& (2147483647 : Int32)) % (2147483646 : Int32))), (.int p1)])) rfl (by rw [hml]; rfl) (argsL := [(.int ((p3 &&& (2147483647 : Int32)) % (2147483646 : Int32))), (.int p4)]) (rest := [(.int p1)]) (lenOf pd_1 rfl) rfl (by show 2 * 0 + _ ≤ _; exact Nat.le_of_eq rfl) (hb hby at_74) (fun _ _ => ⟨rfl, Qe9, (by decide : 0 + 0 ≤ _), (by decide : 0 + 0 ≤ _)⟩)
  dsimp only [Pt.U, Pt.locs, Pt.cells, Pt.slots] at X14 l14 y14 z14 st14 hQ14
  subst l14 y14 z14
  obtain ⟨rfl, N14q, Qe14⟩ := hQ14
  have N14 := Fr.app N9 N14q
  have ac15 : ∀ t, Steps p.tables e below (T14.setTop (mkF m 77 #[.val (.int p1), .val (.long q2), .second, .val (.int p3), .val (.int p4), .val (.int ((p3 &&& (2147483647 : Int32)) % (2147483646 : Int32))), .val (.int (1 : Int32)), .val (.int (1 : Int32)), .unset] [(.long (own_cell p4 ((p3 &&& (2147483647 : Int32)) % (2147483646 : Int32)))), (.int p1)])) t → Steps p.tables e below (s₁.setTop (entryFrame m #[(.int p1), (.long q2), (.int p3), (.int p4)] maxLocals)) t := fun t k => ac13 t (st14 t k)
  obtain ⟨_, _, ⟨T16, L16, k16, n16⟩, -, X16, ⟨Lc16, hQ16, l16, y16, z16⟩, st16⟩ := Jvm.LawKit.callS X14 hx (y := (⟨"com/example/twinbase/twinbase/DoubleArray", "isLeaf", "(IJ)Z"⟩ : MethodName)) hown (mvT hZ (hw _ (List.mem_of_getElem? (i := 2) rfl))) (mvT hZ (hw _ (List.mem_of_getElem? (i := 3) rfl))) (mvT hZ (hw _ (List.mem_of_getElem? (i := 4) rfl))) (mvT hZ (hw _ (List.mem_of_getElem? (i := 5) rfl))) (by decide) (backOf (W := 0) (rm1 l Z a0 hw [] p1 (own_cell p4 ((p3 &&& (2147483647 : Int32)) % (2147483646 : Int32)))  h0 n0 Z0 ) hZ (hw _ (List.mem_of_getElem? (i := 5) rfl)) (hw _ (List.mem_of_getElem? (i := 4) rfl)) (by decide) (by decide)) (g := (mkF m 77 #[.val (.int p1), .val (.long q2), .second, .val (.int p3), .val (.int p4), .val (.int ((p3 &&& (2147483647 : Int32)) % (2147483646 : Int32))), .val (.int (1 : Int32)), .val (.int (1 : Int32)), .unset] [(.long (own_cell p4 ((p3 &&& (2147483647 : Int32)) % (2147483646 : Int32)))), (.int p1)])) rfl (by rw [hml]; rfl) (argsL := [(.int p1), (.long (own_cell p4 ((p3 &&& (2147483647 : Int32)) % (2147483646 : Int32))))]) (rest := []) (lenOf pd_0 rfl) rfl (by show 2 * 0 + _ ≤ _; exact Nat.le_of_eq rfl) (hb hby at_77) (fun _ _ => ⟨rfl, Qe14, (by decide : 0 + 0 ≤ _), (by decide : 0 + 0 ≤ _)⟩)
  dsimp only [Pt.U, Pt.locs, Pt.cells, Pt.slots] at X16 l16 y16 z16 st16 hQ16
  subst l16 y16 z16
  obtain ⟨rfl, N16q, Qe16⟩ := hQ16
  have N16 := Fr.app N14 N16q
  have ac17 : ∀ t, Steps p.tables e below (T16.setTop (mkF m 80 #[.val (.int p1), .val (.long q2), .second, .val (.int p3), .val (.int p4), .val (.int ((p3 &&& (2147483647 : Int32)) % (2147483646 : Int32))), .val (.int (1 : Int32)), .val (.int (1 : Int32)), .unset] [(.int (own_isLeaf p1 (own_cell p4 ((p3 &&& (2147483647 : Int32)) % (2147483646 : Int32)))))])) t → Steps p.tables e below (s₁.setTop (entryFrame m #[(.int p1), (.long q2), (.int p3), (.int p4)] maxLocals)) t := fun t k => ac15 t (st16 t k)
  have ac18 : ∀ t, Steps p.tables e below (T16.setTop (mkF m 110 #[.val (.int p1), .val (.long q2), .second, .val (.int p3), .val (.int p4), .val (.int ((p3 &&& (2147483647 : Int32)) % (2147483646 : Int32))), .val (.int (1 : Int32)), .val (.int (1 : Int32)), .val (.int (1 : Int32))] [(.int (1 : Int32))])) t → Steps p.tables e below (s₁.setTop (entryFrame m #[(.int p1), (.long q2), (.int p3), (.int p4)] maxLocals)) t := fun t k => ac17 t (by
      show Steps p.tables e below (T16.setTop (mkF m 80 #[.val (.int p1), .val (.long q2), .second, .val (.int p3), .val (.int p4), .val (.int ((p3 &&& (2147483647 : Int32)) % (2147483646 : Int32))), .val (.int (1 : Int32)), .val (.int (1 : Int32)), .unset] [(.int (own_isLeaf p1 (own_cell p4 ((p3 &&& (2147483647 : Int32)) % (2147483646 : Int32)))))])) _
      refine XS.ifNo X16.here hx rfl (hb hby at_80) rfl ((if0 _ _).trans (teq (own_isLeaf_f (own_inner p4 p3))).2) ?_
      show Steps p.tables e below (T16.setTop (mkF m 83 #[.val (.int p1), .val (.long q2), .second, .val (.int p3), .val (.int p4), .val (.int ((p3 &&& (2147483647 : Int32)) % (2147483646 : Int32))), .val (.int (1 : Int32)), .val (.int (1 : Int32)), .unset] [])) _
      refine XS.iconst X16.here hx rfl (hb hby at_83) ?_
      show Steps p.tables e below (T16.setTop (mkF m 84 #[.val (.int p1), .val (.long q2), .second, .val (.int p3), .val (.int p4), .val (.int ((p3 &&& (2147483647 : Int32)) % (2147483646 : Int32))), .val (.int (1 : Int32)), .val (.int (1 : Int32)), .unset] [(.int (1 : Int32))])) _
      refine XS.goto X16.here hx rfl (pc0 := 84) (pc' := 88) rfl (hb hby at_84) (by decide) (by decide) ?_
      show Steps p.tables e below (T16.setTop (mkF m 88 #[.val (.int p1), .val (.long q2), .second, .val (.int p3), .val (.int p4), .val (.int ((p3 &&& (2147483647 : Int32)) % (2147483646 : Int32))), .val (.int (1 : Int32)), .val (.int (1 : Int32)), .unset] [(.int (1 : Int32))])) _
      refine XS.istore X16.here hx rfl (hb hby at_88) rfl (l' := #[.val (.int p1), .val (.long q2), .second, .val (.int p3), .val (.int p4), .val (.int ((p3 &&& (2147483647 : Int32)) % (2147483646 : Int32))), .val (.int (1 : Int32)), .val (.int (1 : Int32)), .val (.int (1 : Int32))]) rfl ?_
      show Steps p.tables e below (T16.setTop (mkF m 90 #[.val (.int p1), .val (.long q2), .second, .val (.int p3), .val (.int p4), .val (.int ((p3 &&& (2147483647 : Int32)) % (2147483646 : Int32))), .val (.int (1 : Int32)), .val (.int (1 : Int32)), .val (.int (1 : Int32))] [])) _
      refine XS.iload X16.here hx rfl (hb hby at_90) rfl ?_
      show Steps p.tables e below (T16.setTop (mkF m 92 #[.val (.int p1), .val (.long q2), .second, .val (.int p3), .val (.int p4), .val (.int ((p3 &&& (2147483647 : Int32)) % (2147483646 : Int32))), .val (.int (1 : Int32)), .val (.int (1 : Int32)), .val (.int (1 : Int32))] [(.int (1 : Int32))])) _
      refine XS.ifNo X16.here hx rfl (hb hby at_92) rfl ((if0 _ _).trans (feq (by decide)).1) ?_
      show Steps p.tables e below (T16.setTop (mkF m 95 #[.val (.int p1), .val (.long q2), .second, .val (.int p3), .val (.int p4), .val (.int ((p3 &&& (2147483647 : Int32)) % (2147483646 : Int32))), .val (.int (1 : Int32)), .val (.int (1 : Int32)), .val (.int (1 : Int32))] [])) _
      refine XS.iload X16.here hx rfl (hb hby at_95) rfl ?_
      show Steps p.tables e below (T16.setTop (mkF m 97 #[.val (.int p1), .val (.long q2), .second, .val (.int p3), .val (.int p4), .val (.int ((p3 &&& (2147483647 : Int32)) % (2147483646 : Int32))), .val (.int (1 : Int32)), .val (.int (1 : Int32)), .val (.int (1 : Int32))] [(.int (1 : Int32))])) _
      refine XS.ifNo X16.here hx rfl (hb hby at_97) rfl ((if0 _ _).trans (feq (by decide)).1) ?_
      show Steps p.tables e below (T16.setTop (mkF m 100 #[.val (.int p1), .val (.long q2), .second, .val (.int p3), .val (.int p4), .val (.int ((p3 &&& (2147483647 : Int32)) % (2147483646 : Int32))), .val (.int (1 : Int32)), .val (.int (1 : Int32)), .val (.int (1 : Int32))] [])) _
      refine XS.iload X16.here hx rfl (hb hby at_100) rfl ?_
      show Steps p.tables e below (T16.setTop (mkF m 102 #[.val (.int p1), .val (.long q2), .second, .val (.int p3), .val (.int p4), .val (.int ((p3 &&& (2147483647 : Int32)) % (2147483646 : Int32))), .val (.int (1 : Int32)), .val (.int (1 : Int32)), .val (.int (1 : Int32))] [(.int (1 : Int32))])) _
      refine XS.ifNo X16.here hx rfl (hb hby at_102) rfl ((if0 _ _).trans (feq (by decide)).1) ?_
      show Steps p.tables e below (T16.setTop (mkF m 105 #[.val (.int p1), .val (.long q2), .second, .val (.int p3), .val (.int p4), .val (.int ((p3 &&& (2147483647 : Int32)) % (2147483646 : Int32))), .val (.int (1 : Int32)), .val (.int (1 : Int32)), .val (.int (1 : Int32))] [])) _
      refine XS.iconst X16.here hx rfl (hb hby at_105) ?_
      show Steps p.tables e below (T16.setTop (mkF m 106 #[.val (.int p1), .val (.long q2), .second, .val (.int p3), .val (.int p4), .val (.int ((p3 &&& (2147483647 : Int32)) % (2147483646 : Int32))), .val (.int (1 : Int32)), .val (.int (1 : Int32)), .val (.int (1 : Int32))] [(.int (1 : Int32))])) _
      refine XS.goto X16.here hx rfl (pc0 := 106) (pc' := 110) rfl (hb hby at_106) (by decide) (by decide) ?_
      exact k)
  obtain ⟨fs, hr, hrun, hended, hW, hsame⟩ := X16.leave (v := some (.int (1 : Int32))) (fun h => by rw [Bd.returns] at h; cases h)
  refine ⟨_, _, ac18 _ ?_, hrun, hended, _, _, rfl, ?_, ⟨_, rfl⟩, hW, hsame.mono (by decide) (by decide)⟩
  · show Steps p.tables e below (T16.setTop (mkF m 110 #[.val (.int p1), .val (.long q2), .second, .val (.int p3), .val (.int p4), .val (.int ((p3 &&& (2147483647 : Int32)) % (2147483646 : Int32))), .val (.int (1 : Int32)), .val (.int (1 : Int32)), .val (.int (1 : Int32))] [(.int (1 : Int32))])) _
    exact retN X16 hx (t := .boolean) Bd.returns (by simp) (hb hby at_110) hr
  · show Q0 Z p1 q2 p3 p4 h0 n0 _ T16.heap _
    rw [Qe16]
    exact ⟨rfl, N16⟩
set_option maxRecDepth 65536 in
set_option maxHeartbeats 40000000 in
theorem comes_1 {Post : Tables → Env → Array Value → State → Outcome → State → Prop} (hpost : ∀ tb e args s v u, (limb_1_1.after args s (.returned v) u = true ∧ limb_1_2.after args s (.returned v) u = true ∧ True) → FrameEnd s (.returned v) u (Jvm.fieldLocs frame_1_writes args s ++ Jvm.arrayLocs frame_1_arrays args s ++ Jvm.staticLocs frame_1_statics s) 0 0 → Post tb e args s (.returned v) u) :
    ArmFor flags0 classFile x code maxLocals ret World_1 tables_1 room_1 Calls_1 rest_1 Pre_1 Post := by
  intro l hfl _ _ p e ha hc hk s m args below hf hA hF happ hP
  obtain ⟨hcalls, hrest, hpre⟩ := hP
  obtain ⟨-, -, -, hnamed, -, -, -, hat⟩ := (Spec.applies_iff hf).mp happ
  obtain ⟨hg, hn⟩ := and_e (Cond.before_iff.mp (show (Jvm.Cond.and given_1 narrow_1).before args s = true from hpre))
  obtain ⟨hcnt, hk0⟩ := and_e hg
  obtain ⟨g0, hk1⟩ := and_e hk0
  obtain ⟨g1, hk2⟩ := and_e hk1
  obtain ⟨g2, hk3⟩ := and_e hk2
  have g3 := hk3
  obtain ⟨w0, w1, w2, w3, rfl⟩ : ∃ w0 w1 w2 w3 : Value, args = #[w0, w1, w2, w3] := by
    have hs : args.size = 4 := by simpa [Cond.value, given_1] using hcnt
    obtain ⟨L⟩ := args
    match L, hs with
    | [w0, w1, w2, w3], _ => exact ⟨w0, w1, w2, w3, rfl⟩
  have hw := fun d (hd : d ∈ tables_1) => atoms_spec (ws := Jvm.Cond.code x code maxLocals ret :: tables_1) hat d (List.mem_cons_of_mem _ hd)
  have hfit : Fit s := fun {y c} hc i hi => by
    obtain ⟨ha, rfl⟩ := Array.getElem?_eq_some_iff.mp hc
    have q := List.all_eq_true.mp ((Array.all_eq_true_iff_forall_mem.mp hF) _ (Array.getElem_mem ha)) i (List.mem_range.mpr hi)
    simpa [Array.getElem?_eq_getElem hi] using q
  obtain ⟨i0, ei0⟩ := is_v g0
  obtain rfl : w0 = (.int i0) := Option.some.inj ei0
  obtain ⟨i1, ei1⟩ := isL_v g1
  obtain rfl : w1 = (.long i1) := Option.some.inj ei1
  obtain ⟨i2, ei2⟩ := is_v g2
  obtain rfl : w2 = (.int i2) := Option.some.inj ei2
  obtain ⟨i3, ei3⟩ := is_v g3
  obtain rfl : w3 = (.int i3) := Option.some.inj ei3
  obtain ⟨n, o, h1, h2, h3, _, L, rfl, ⟨rfl, N⟩, hq⟩ := rm0 l s _ hw tables_1 i0 i1 i2 i3  s.heap s.heap.size (Nat.le_refl _)  p e ha hc hk s m _ below hf ((Spec.applies_iff_loose hf).mp happ).1 ⟨rfl, State.Warmed39.refl s, rfl⟩ trivial
  refine ⟨n, _, h1, h2, h3, hpost _ _ _ _ _ _ ⟨Cond.after_iff.mpr rfl, Cond.after_iff.mpr (eq_i res_at (Term.int_eval (1)) rfl), trivial⟩ ⟨hq.1, hq.2.1, (hq.2.2.sift fun y hy => Or.inr (N y hy)).mono (by decide) (by decide)⟩⟩
theorem main_1_1 : Claimed_1_1 := comes_1 fun _ _ _ _ _ _ h hF => ⟨h.1, hF⟩
theorem main_1_2 : Claimed_1_2 := comes_1 fun _ _ _ _ _ _ h hF => ⟨h.2.1, hF⟩
end Jvm.Pilot.@@N@@
namespace Jvm.Pilot.@@N@@
open Jvm Jvm.ClassFile Sem Op Lib Jvm.Free Jvm.Stand Jvm.Pilot.@@N@@.Jvm.D
/-! MADE BY PROGRAM (witnessworld.py) out of the Statement's table words and the real class files: 9 classes; the members and pool entries that the words name. The judged class is class 1, her method 1. -/
namespace start1
open Jvm.ClassFile
def u (s : String) : CpInfo := .utf8 (stringToUtf16 s)
/-- a pool by its gaps: so many unusable entries, then the entry; so many at the end -/
def gap : Nat → List CpInfo → List CpInfo
  | 0, r => r
  | n + 1, r => .unusable :: gap n r
def poolList (es : List (Nat × CpInfo)) (last : Nat) : List CpInfo := es.foldr (fun e r => gap e.1 (e.2 :: r)) (gap last [])
def pool (es : List (Nat × CpInfo)) (last : Nat) : Array CpInfo := ⟨poolList es last⟩
def fileOf (pool : Array CpInfo) (this : Nat) (attrs : Array Attribute := #[]) (ms : Array MethodInfo := #[]) (fl : Nat := 33) (sup : Nat := 0) (ifs : Array Nat := #[]) (fds : Array FieldInfo := #[]) : ClassFile where
  minorVersion := 0
  majorVersion := 65
  constantPool := pool
  accessFlags := fl
  thisClass := this
  superClass := sup
  interfaces := ifs
  fields := fds
  methods := ms
  attributes := attrs
def plain (name : String) (sup : Option ClassId) : Class where
  name := name
  kind := .ordinary
  loader := none
  accessFlags := 33
  super := sup
  interfaces := #[]
  cf := none
  fields := #[]
  methods := #[]
  instanceTypes := #[]
  staticTypes := #[]
  resolved := #[]
  callSites := []
  init := .initialized
  statics := none
  mirror := none

def pool0 : Array CpInfo := pool [(5, u "<init>"), (0, u "()V"), (1, .class_ 10), (1, u "java/lang/Object")] 113

def k0m0 : Method := { name := "<init>", desc := "()V", sig := { parameters := [], returnType := none }, accessFlags := 1, code := none }
/-- java/lang/Object -/
def k0 : Class := { plain "java/lang/Object" none with
  accessFlags := 33
  interfaces := #[]
  cf := some (fileOf pool0 8 #[] #[{ accessFlags := 1, nameIndex := 5, descriptorIndex := 6, attributes := #[] }] 33 0 #[] #[])
  fields := #[]
  methods := #[k0m0]
  instanceTypes := #[]
  staticTypes := #[]
  resolved := Array.replicate 124 none
  statics := none }

def pool1 : Array CpInfo := pool [(2, .class_ 4), (1, u "java/lang/Object"), (0, u "<init>"), (0, u "()V"), (0, .integer 2147483647), (2, .integer 2147483646), (0, .methodref 12 13), (0, .class_ 14), (0, .nameAndType 15 16), (0, u "com/example/twinbase/twinbase/DoubleArray"), (0, u "isLeaf"), (0, u "(IJ)Z"), (0, .methodref 12 18), (0, .nameAndType 19 20), (0, u "leaf"), (0, u "(II)J"), (0, .methodref 12 22), (0, .nameAndType 23 20), (0, u "inner"), (0, .class_ 25), (0, u "com/example/twinbase/twinbase/DoubleArrayIsLeafPinLaw"), (2, u "law"), (0, u "(IJII)Z")] 3

def k1m0 : Method := { name := "<init>", desc := "()V", sig := { parameters := [], returnType := none }, accessFlags := 1, code := none }
def k1c1 : Code := { maxStack := 5, maxLocals := 9, code := code, exceptionTable := #[], attributes := #[] }
def k1m1 : Method := { name := "law", desc := "(IJII)Z", sig := { parameters := [.int, .long, .int, .int], returnType := some .boolean }, accessFlags := 9, code := some k1c1 }
/-- com/example/twinbase/twinbase/DoubleArrayIsLeafPinLaw -/
def k1 : Class := { plain "com/example/twinbase/twinbase/DoubleArrayIsLeafPinLaw" (some 0) with
  accessFlags := 49
  interfaces := #[]
  cf := some (fileOf pool1 24 #[] #[{ accessFlags := 1, nameIndex := 5, descriptorIndex := 6, attributes := #[] }, { accessFlags := 9, nameIndex := 28, descriptorIndex := 29, attributes := #[] }] 49 2 #[] #[])
  fields := #[]
  methods := #[k1m0, k1m1]
  instanceTypes := #[]
  staticTypes := #[]
  resolved := Array.replicate 33 none
  statics := none }

def pool2 : Array CpInfo := pool [(4, .class_ 6), (1, u "java/lang/Object"), (3, .class_ 12), (1, u "com/example/twinbase/twinbase/DoubleArray"), (0, u "alphabet"), (0, u "Lcom/example/twinbase/twinbase/Alphabet;"), (2, u "cells"), (0, u "[J"), (24, u "(J)I"), (21, u "isLeaf"), (0, u "(IJ)Z"), (3, .methodref 10 71), (0, .nameAndType 72 43), (0, u "check"), (7, .methodref 10 81), (0, .nameAndType 82 83), (0, u "cell"), (0, u "(II)J"), (0, .long 4294967295), (4, u "FREE"), (0, u "J"), (0, u "ROOT"), (0, u "I"), (2, u "END_OF_KEY"), (0, u "NO_PARENT"), (0, u "MAX_CELLS"), (1, u "NOT_FOUND"), (19, u "inner"), (0, u "leaf")] 7

def k2c0 : Code := { maxStack := 2, maxLocals := 3, code := prog_8_method_12_code, exceptionTable := #[], attributes := #[] }
def k2m0 : Method := { name := "isLeaf", desc := "(IJ)Z", sig := { parameters := [.int, .long], returnType := some .boolean }, accessFlags := 8, code := some k2c0 }
def k2c1 : Code := { maxStack := 3, maxLocals := 2, code := prog_8_method_19_code, exceptionTable := #[], attributes := #[] }
def k2m1 : Method := { name := "check", desc := "(J)I", sig := { parameters := [.long], returnType := some .int }, accessFlags := 8, code := some k2c1 }
def k2c2 : Code := { maxStack := 2, maxLocals := 2, code := prog_8_method_21_code, exceptionTable := #[], attributes := #[] }
def k2m2 : Method := { name := "inner", desc := "(II)J", sig := { parameters := [.int, .int], returnType := some .long }, accessFlags := 8, code := some k2c2 }
def k2c3 : Code := { maxStack := 3, maxLocals := 2, code := prog_8_method_22_code, exceptionTable := #[], attributes := #[] }
def k2m3 : Method := { name := "leaf", desc := "(II)J", sig := { parameters := [.int, .int], returnType := some .long }, accessFlags := 8, code := some k2c3 }
def k2c4 : Code := { maxStack := 6, maxLocals := 2, code := prog_8_method_23_code, exceptionTable := #[], attributes := #[] }
def k2m4 : Method := { name := "cell", desc := "(II)J", sig := { parameters := [.int, .int], returnType := some .long }, accessFlags := 8, code := some k2c4 }
/-- com/example/twinbase/twinbase/DoubleArray -/
def k2 : Class := { plain "com/example/twinbase/twinbase/DoubleArray" (some 0) with
  accessFlags := 48
  interfaces := #[]
  cf := some (fileOf pool2 10 #[] #[{ accessFlags := 8, nameIndex := 65, descriptorIndex := 66, attributes := #[] }, { accessFlags := 8, nameIndex := 72, descriptorIndex := 43, attributes := #[] }, { accessFlags := 8, nameIndex := 119, descriptorIndex := 83, attributes := #[] }, { accessFlags := 8, nameIndex := 120, descriptorIndex := 83, attributes := #[] }, { accessFlags := 8, nameIndex := 82, descriptorIndex := 83, attributes := #[] }] 48 4 #[] #[{ accessFlags := 24, nameIndex := 91, descriptorIndex := 92, attributes := #[] }, { accessFlags := 24, nameIndex := 95, descriptorIndex := 92, attributes := #[] }, { accessFlags := 24, nameIndex := 96, descriptorIndex := 92, attributes := #[] }, { accessFlags := 24, nameIndex := 89, descriptorIndex := 90, attributes := #[] }, { accessFlags := 24, nameIndex := 97, descriptorIndex := 92, attributes := #[] }, { accessFlags := 24, nameIndex := 99, descriptorIndex := 92, attributes := #[] }, { accessFlags := 18, nameIndex := 13, descriptorIndex := 14, attributes := #[] }, { accessFlags := 18, nameIndex := 17, descriptorIndex := 18, attributes := #[] }])
  fields := #[{ name := "ROOT", type := .int, accessFlags := 24, slot := 0, constantValue := 0 }, { name := "END_OF_KEY", type := .int, accessFlags := 24, slot := 1, constantValue := 0 }, { name := "NO_PARENT", type := .int, accessFlags := 24, slot := 2, constantValue := 0 }, { name := "FREE", type := .long, accessFlags := 24, slot := 3, constantValue := 0 }, { name := "MAX_CELLS", type := .int, accessFlags := 24, slot := 4, constantValue := 0 }, { name := "NOT_FOUND", type := .int, accessFlags := 24, slot := 5, constantValue := 0 }, { name := "alphabet", type := (.object "com/example/twinbase/twinbase/Alphabet"), accessFlags := 18, slot := 0, constantValue := 0 }, { name := "cells", type := (.array .long), accessFlags := 18, slot := 1, constantValue := 0 }]
  methods := #[k2m0, k2m1, k2m2, k2m3, k2m4]
  instanceTypes := #[(.object "com/example/twinbase/twinbase/Alphabet"), (.array .long)]
  staticTypes := #[.int, .int, .int, .long, .int, .int]
  resolved := Array.replicate 128 none
  statics := none }

def pool3 : Array CpInfo := pool [(1, u "java/lang/Cloneable"), (0, .class_ 1), (0, u "java/lang/Object"), (0, .class_ 3)] 3

/-- java/lang/Cloneable -/
def k3 : Class := { plain "java/lang/Cloneable" (some 0) with
  accessFlags := 1537
  interfaces := #[]
  cf := some (fileOf pool3 2 #[] #[] 1537 4 #[] #[])
  fields := #[]
  methods := #[]
  instanceTypes := #[]
  staticTypes := #[]
  resolved := Array.replicate 8 none
  statics := none }

def pool4 : Array CpInfo := pool [(1, u "java/io/Serializable"), (0, .class_ 1), (0, u "java/lang/Object"), (0, .class_ 3)] 3

/-- java/io/Serializable -/
def k4 : Class := { plain "java/io/Serializable" (some 0) with
  accessFlags := 1537
  interfaces := #[]
  cf := some (fileOf pool4 2 #[] #[] 1537 4 #[] #[])
  fields := #[]
  methods := #[]
  instanceTypes := #[]
  staticTypes := #[]
  resolved := Array.replicate 8 none
  statics := none }

/-- the primitive byte -/
def k5 : Class := { plain "byte" none with kind := .primitive 'B', accessFlags := 0x411 }
/-- [B -/
def k6 : Class := { plain "[B" (some 0) with kind := .array 5 .byte, interfaces := #[3, 4], accessFlags := 1041 }

/-- the primitive int -/
def k7 : Class := { plain "int" none with kind := .primitive 'I', accessFlags := 0x411 }
/-- [I -/
def k8 : Class := { plain "[I" (some 0) with kind := .array 7 .int, interfaces := #[3, 4], accessFlags := 1041 }

def heap : Heap := #[]
def classes : Array Class := #[k0, k1, k2, k3, k4, k5, k6, k7, k8]
def interned : List (Array UInt16 × Addr) := []
def slotsUsed : Nat := 0
def theMethod : MethodId := ⟨1, 1⟩
def args0 : Array Value := #[.int 3, .long (-4), .int 5, .int 6]
def aboutOver (below : List Frame) : State where
  vm := { classes := classes, interned := interned.toArray }
  heap := heap
  slotsUsed := slotsUsed
  threads := #[{ frames := .invoking theMethod args0 :: below }]
def below0 : List Frame := [.native { method := ⟨0, 0⟩, args := #[] }]
def about1 : State := aboutOver below0
def p0 : Program := .bare "" "" ""
def e0 : Env := launch0.env 0 0 0
theorem w_frames : about1.frames = Frame.invoking theMethod args0 :: below0 := rfl
set_option maxRecDepth 65536 in
theorem w_args : argsFit about1.vm theMethod args0 = true := by decide +kernel
set_option maxRecDepth 65536 in
theorem w_heap : heapFits about1 = true := by decide +kernel
set_option maxRecDepth 65536 in
theorem w_runnable : about1.curStatus? = some .runnable := by decide +kernel
set_option maxRecDepth 65536 in
theorem w_alone : about1.alone = true := by decide +kernel
set_option maxRecDepth 65536 in
theorem w_named : about1.methodNamed? x = some theMethod := by decide +kernel
set_option maxRecDepth 65536 in
theorem w_hears : about1.hears theMethod below0 = true := by decide +kernel
set_option maxRecDepth 65536 in
theorem w_ripe : about1.ripe theMethod args0 below0 = true := by decide +kernel
theorem w_running : about1.status = .running := rfl
set_option maxRecDepth 65536 in
theorem w_room : about1.hasRoom e0.platform room_1 = true :=
  launch0.hasRoom_least _ room_1 (by decide +kernel) (by decide +kernel) (by decide +kernel) (by decide +kernel) (by decide +kernel) (by decide +kernel)
theorem allAtoms_all (ts : List Jvm.Cond) (a : Array Jvm.Value) (st : Jvm.State) : (allAtoms ts).before a st = ts.all (fun c => c.before a st) := by
  induction ts with
  | nil => rfl
  | cons c t ih =>
    show (Jvm.Cond.and c (allAtoms t)).before a st = _
    rw [Jvm.Cond.before_and, ih, List.all_cons]
def words1 : List Jvm.Cond := Jvm.Cond.code x code maxLocals ret :: tables_1
/-- a 'code' word, met by the world's own term for the bytes: nothing is compared byte by byte -/
theorem code_word {y : MethodName} {bytes : ByteArray} {mx : Nat} {rt : Option FieldType} {a : Array Value} {s : State} {m : MethodId} {meth : Method} {c : Code} (h1 : s.methodNamed? y = some m) (h2 : s.vm.method? m = some meth) (h3 : meth.code = some c) (h4 : c.code = bytes)
    (h5 : (c.maxLocals == mx && c.exceptionTable.isEmpty && decide (c.maxStack ≤ mostOperands) && decide (meth.sig.returnType = rt) && !meth.locks && decide (parseMethodDescriptor y.desc = some meth.sig)) = true) : (Jvm.Cond.code y bytes mx rt).before a s = true := by
  simp only [Bool.and_eq_true, beq_iff_eq, Bool.not_eq_true', decide_eq_true_eq] at h5
  obtain ⟨⟨⟨⟨⟨g1, g2⟩, g3⟩, g4⟩, g5⟩, g6⟩ := h5
  simp [Cond.before, Cond.holds, Cond.value, h1, h2, h3, h4, g1, g2, g3, g4, g5, g6]
def isCode : Jvm.Cond → Bool
  | .code _ _ _ _ => true
  | _ => false
theorem all_split {L : List Jvm.Cond} {P : Jvm.Cond → Bool} (h1 : L.all (fun c => isCode c || P c) = true) (h2 : ∀ c ∈ L.filter isCode, P c = true) : L.all P = true := by
  refine List.all_eq_true.mpr fun c hc => ?_
  have h := List.all_eq_true.mp h1 c hc
  rcases Bool.eq_false_or_eq_true (isCode c) with hi | hi
  · exact h2 c (List.mem_filter.mpr ⟨hc, hi⟩)
  · simpa [hi] using h
set_option maxRecDepth 65536 in
theorem w_c0 : (Jvm.Cond.code x code maxLocals ret).before args0 about1 = true := code_word (m := ⟨1, 1⟩) (meth := k1m1) (c := k1c1) (by decide +kernel) rfl rfl rfl (by decide +kernel)
set_option maxRecDepth 65536 in
theorem w_c1 : (Jvm.Cond.code ({ cls := "com/example/twinbase/twinbase/DoubleArray", name := "isLeaf", desc := "(IJ)Z" } : Jvm.MethodName) prog_8_method_12_code (3 : Nat) (Option.some Jvm.ClassFile.FieldType.boolean)).before args0 about1 = true := code_word (m := ⟨2, 0⟩) (meth := k2m0) (c := k2c0) (by decide +kernel) rfl rfl rfl (by decide +kernel)
set_option maxRecDepth 65536 in
theorem w_c2 : (Jvm.Cond.code ({ cls := "com/example/twinbase/twinbase/DoubleArray", name := "leaf", desc := "(II)J" } : Jvm.MethodName) prog_8_method_22_code (2 : Nat) (Option.some Jvm.ClassFile.FieldType.long)).before args0 about1 = true := code_word (m := ⟨2, 3⟩) (meth := k2m3) (c := k2c3) (by decide +kernel) rfl rfl rfl (by decide +kernel)
set_option maxRecDepth 65536 in
theorem w_c3 : (Jvm.Cond.code ({ cls := "com/example/twinbase/twinbase/DoubleArray", name := "cell", desc := "(II)J" } : Jvm.MethodName) prog_8_method_23_code (2 : Nat) (Option.some Jvm.ClassFile.FieldType.long)).before args0 about1 = true := code_word (m := ⟨2, 4⟩) (meth := k2m4) (c := k2c4) (by decide +kernel) rfl rfl rfl (by decide +kernel)
set_option maxRecDepth 65536 in
theorem w_c4 : (Jvm.Cond.code ({ cls := "com/example/twinbase/twinbase/DoubleArray", name := "inner", desc := "(II)J" } : Jvm.MethodName) prog_8_method_21_code (2 : Nat) (Option.some Jvm.ClassFile.FieldType.long)).before args0 about1 = true := code_word (m := ⟨2, 2⟩) (meth := k2m2) (c := k2c2) (by decide +kernel) rfl rfl rfl (by decide +kernel)
set_option maxRecDepth 65536 in
theorem w_c5 : (Jvm.Cond.code ({ cls := "com/example/twinbase/twinbase/DoubleArray", name := "check", desc := "(J)I" } : Jvm.MethodName) prog_8_method_19_code (2 : Nat) (Option.some Jvm.ClassFile.FieldType.int)).before args0 about1 = true := code_word (m := ⟨2, 1⟩) (meth := k2m1) (c := k2c1) (by decide +kernel) rfl rfl rfl (by decide +kernel)
def codes1 : List Jvm.Cond := [Jvm.Cond.code x code maxLocals ret, Jvm.Cond.code ({ cls := "com/example/twinbase/twinbase/DoubleArray", name := "isLeaf", desc := "(IJ)Z" } : Jvm.MethodName) prog_8_method_12_code (3 : Nat) (Option.some Jvm.ClassFile.FieldType.boolean), Jvm.Cond.code ({ cls := "com/example/twinbase/twinbase/DoubleArray", name := "leaf", desc := "(II)J" } : Jvm.MethodName) prog_8_method_22_code (2 : Nat) (Option.some Jvm.ClassFile.FieldType.long), Jvm.Cond.code ({ cls := "com/example/twinbase/twinbase/DoubleArray", name := "cell", desc := "(II)J" } : Jvm.MethodName) prog_8_method_23_code (2 : Nat) (Option.some Jvm.ClassFile.FieldType.long), Jvm.Cond.code ({ cls := "com/example/twinbase/twinbase/DoubleArray", name := "inner", desc := "(II)J" } : Jvm.MethodName) prog_8_method_21_code (2 : Nat) (Option.some Jvm.ClassFile.FieldType.long), Jvm.Cond.code ({ cls := "com/example/twinbase/twinbase/DoubleArray", name := "check", desc := "(J)I" } : Jvm.MethodName) prog_8_method_19_code (2 : Nat) (Option.some Jvm.ClassFile.FieldType.int)]
set_option maxRecDepth 65536 in
theorem codes_eq : words1.filter isCode = codes1 := rfl
theorem w_codes : ∀ c ∈ words1.filter isCode, c.before args0 about1 = true := by
  rw [codes_eq]
  intro c hc
  simp only [codes1, List.mem_cons, List.not_mem_nil, or_false] at hc
  rcases hc with rfl | rfl | rfl | rfl | rfl | rfl
  · exact w_c0
  · exact w_c1
  · exact w_c2
  · exact w_c3
  · exact w_c4
  · exact w_c5
set_option maxRecDepth 65536 in
theorem w_t1 : words1.all (fun c => isCode c || c.before args0 about1) = true := by decide +kernel
theorem w_tables : (allAtoms (Jvm.Cond.code x code maxLocals ret :: tables_1)).before args0 about1 = true := by
  rw [allAtoms_all]
  show words1.all (fun c => c.before args0 about1) = true
  refine all_split ?_ w_codes
  rw [w_t1]
set_option maxRecDepth 65536 in
theorem w_case : (Jvm.Cond.and given_1 narrow_1).before args0 about1 = true := by decide +kernel
theorem w_applies : (headSpec (Jvm.Cond.code x code maxLocals ret :: tables_1) room_1).applies x e0.platform about1 = true :=
  (Spec.applies_iff w_frames).mpr ⟨w_running, w_runnable, w_alone, w_named, w_hears, w_ripe, w_room, w_tables⟩
theorem atStart : AtStart classFile x code maxLocals ret World_1 tables_1 room_1 Calls_1 rest_1 Pre_1 launch0 p0 e0 about1 theMethod args0 below0 :=
  ⟨lists_1, trivial, launch0.admits_env _ _ _, launch0.least_env, fairChoices_fair.cas, fairChoices_fair.clock, w_frames, w_args, w_heap, w_applies, trivial, trivial, w_case⟩
end start1
theorem witness_1 : WitnessClaimed_1 := ⟨start1.p0, start1.e0, start1.about1, start1.theMethod, start1.args0, start1.below0, start1.atStart⟩
end Jvm.Pilot.@@N@@
