import JvmDerived
import JvmDerived.Pilot.@@N@@Statement
import JvmDerived.Pilot.@@N@@Code
set_option linter.unusedVariables false
set_option linter.unusedSimpArgs false

namespace Jvm.RoadKit
open Sem ClassFile Op Lib Jvm.Stand Jvm.Free Jvm.LawKit
section New
variable {p : Program} {l : Launch} {e : Env} {R : Room} {s : State} {m : MethodId} {args : Array Value} {below : List Frame} {meth : Method} {c : Code} {T : State} {locs : List Loc} {cells slots : Nat}
theorem retI (X : Stand p l e R s m args below meth c T locs cells slots) (hx : p.tables.exec = Jvm.exec) {pc : Nat} {Ls : Array Slot} {z : Int32} {rest : List Value} (hret : meth.sig.returnType = some .int) (hd : decode c.code pc = .ok (.ireturn, 1)) {fs : List Frame}
    (hl : ∀ (f : JFrame) (acts : List Action), f.method = m → f.locked = none → f.entered = [] → (doReturn e (T.setTop f) acts (some (.int z))).1 = T.setFrames fs) : Steps p.tables e below (T.setTop (mkF m pc Ls (.int z :: rest))) (T.setFrames fs) := by
  have hm' : T.vm.method? m = some meth := X.method'
  have hn : narrow .int (.int z) = .int z := rfl
  show Steps p.tables e below (T.setTop { method := m, pc := pc, locals := Ls, stack := _ :: rest, locked := none }) _
  jvm_step X.here [X.here.top, hx, hd, hm', hret, hn]
  first | (intro acts; rw [hl _ acts rfl rfl rfl]) | rw [hl _ _ rfl rfl rfl]
  exact Steps.refl _
end New
end Jvm.RoadKit
namespace Jvm.Pilot.@@N@@
open Jvm Jvm.ClassFile Sem Op Lib Jvm.Free Jvm.Stand Jvm.LawKit Jvm.RoadKit Bundle Jvm.Pilot.@@N@@.Jvm.D
def DI (i : Int) (A : Nat) (a : UInt64) : Prop := FP.Core.DInt i a ∧ i.natAbs ≤ A
theorem own_pow53 : (2 : Nat) ^ 53 = 9007199254740992 := by decide +kernel
theorem DI.add {i j : Int} {A B : Nat} {a b z : UInt64} (ha : DI i A a) (hb : DI j B b) (e : z = FP.dadd a b) (h : A + B ≤ 9007199254740992) : DI (i + j) (A + B) z := by
  obtain ⟨x1, x2⟩ := ha
  obtain ⟨y1, y2⟩ := hb
  have q : (i + j).natAbs ≤ A + B := by omega
  subst e
  exact ⟨FP.Core.dadd_int x1 y1 (by rw [own_pow53]; omega), q⟩
theorem DI.sub {i j : Int} {A B : Nat} {a b z : UInt64} (ha : DI i A a) (hb : DI j B b) (e : z = FP.dsub a b) (h : A + B ≤ 9007199254740992) : DI (i - j) (A + B) z := by
  obtain ⟨x1, x2⟩ := ha
  obtain ⟨y1, y2⟩ := hb
  have q : (i - j).natAbs ≤ A + B := by omega
  subst e
  exact ⟨FP.Core.dsub_int x1 y1 (by rw [own_pow53]; omega), q⟩
theorem DI.mul {i j : Int} {A B : Nat} {a b z : UInt64} (ha : DI i A a) (hb : DI j B b) (e : z = FP.dmul a b) (h : A * B ≤ 9007199254740992) : DI (i * j) (A * B) z := by
  obtain ⟨x1, x2⟩ := ha
  obtain ⟨y1, y2⟩ := hb
  have q : (i * j).natAbs ≤ A * B := by rw [Int.natAbs_mul]; exact Nat.mul_le_mul x2 y2
  subst e
  exact ⟨FP.Core.dmul_int x1 y1 (by rw [own_pow53]; exact Nat.le_trans q h), q⟩
theorem DI.nn {i : Int} {A : Nat} {a : UInt64} (h : DI i A a) : Jvm.Free.Fl.NoNaN64 a := by
  rw [Jvm.Free.Fl.val64_no]
  intro q
  have w := h.1
  unfold FP.Core.DInt at w
  rw [q] at w
  exact w
theorem DI.zero : DI 0 0 (0 : UInt64) := by
  have q := FP.Core.l2d_int (a := 0) (by decide)
  rw [show FP.Core.l2d 0 = 0 from l2d_zero] at q
  exact ⟨q, by decide⟩
theorem DI.cmp {i : Int} {A : Nat} {a : UInt64} (h : DI i A a) : cmpValue (FP.dcmp a (0 : UInt64)) .l < 0 ↔ i < 0 := by
  rw [show FP.dcmp a (0 : UInt64) = some (compare i 0) from FP.Core.dcmp_int h.1 DI.zero.1]
  rcases Int.lt_trichotomy i 0 with q | q | q
  · rw [show compare i 0 = .lt from Int.compare_eq_lt.mpr q]; exact ⟨fun _ => q, fun _ => by decide⟩
  · subst q; decide
  · rw [show compare i 0 = .gt from Int.compare_eq_gt.mpr q]; exact ⟨fun z => absurd z (by decide), fun z => by omega⟩
def LI (i : Int) (A : Nat) (a : Int64) : Prop := a.toInt = i ∧ i.natAbs ≤ A
theorem LI.d {i : Int} {A : Nat} {a : Int64} {z : UInt64} (h : LI i A a) (e : z = FP.l2d a) (hA : A ≤ 9007199254740992) : DI i A z := by
  obtain ⟨rfl, h2⟩ := h
  subst e
  exact ⟨FP.Core.l2d_int (by rw [own_pow53]; omega), h2⟩
theorem LI.add {i j : Int} {A B : Nat} {a b : Int64} (ha : LI i A a) (hb : LI j B b) (h : A + B ≤ 9007199254740992) : LI (i + j) (A + B) (a + b) := by
  obtain ⟨rfl, x2⟩ := ha
  obtain ⟨rfl, y2⟩ := hb
  refine ⟨?_, by omega⟩
  rw [Int64.toInt_add, Int.bmod_def]; omega
theorem LI.sub {i j : Int} {A B : Nat} {a b : Int64} (ha : LI i A a) (hb : LI j B b) (h : A + B ≤ 9007199254740992) : LI (i - j) (A + B) (a - b) := by
  obtain ⟨rfl, x2⟩ := ha
  obtain ⟨rfl, y2⟩ := hb
  refine ⟨?_, by omega⟩
  rw [Int64.toInt_sub, Int.bmod_def]; omega
theorem LI.mul {i j : Int} {A B : Nat} {a b : Int64} (ha : LI i A a) (hb : LI j B b) (h : A * B ≤ 9007199254740992) : LI (i * j) (A * B) (a * b) := by
  obtain ⟨rfl, x2⟩ := ha
  obtain ⟨rfl, y2⟩ := hb
  have q : (a.toInt * b.toInt).natAbs ≤ A * B := by rw [Int.natAbs_mul]; exact Nat.mul_le_mul x2 y2
  refine ⟨?_, q⟩
  rw [Int64.toInt_mul, Int.bmod_def]
  generalize a.toInt * b.toInt = w at q ⊢
  generalize A * B = k at q h
  omega
theorem LI.neg {i : Int} {A : Nat} {a : Int64} (ha : LI i A a) : lcmpW a (0 : Int64) < 0 ↔ i < 0 := by
  obtain ⟨rfl, x2⟩ := ha
  rw [lw_lt, Int64.lt_iff_toInt_lt]
  exact Iff.rfl
theorem LI.shr (x : Int32) : LI (x.toInt / 65536) 32768 (x >>> ((16 : Int32) &&& 31)).toInt64 := by
  have q := c_ishr x 16 16 (by decide)
  have h1 := x.toInt_lt
  have h2 := x.le_toInt
  have e : ((2 ^ 16 : Nat) : Int) = 65536 := by decide
  rw [e] at q
  constructor
  · rw [Int32.toInt_toInt64, q]
  · omega
theorem LI.i2s (x : Int32) : LI x.toInt16.toInt32.toInt 32768 x.toInt16.toInt32.toInt64 := by
  have q := c_i2s x
  constructor
  · rw [Int32.toInt_toInt64]
  · omega
theorem own_m7 (x : Int32) : (if (4 : Int32) < (x &&& (7 : Int32)) then (4 : Int32) else (x &&& (7 : Int32))) = 0 ∨ (if (4 : Int32) < (x &&& (7 : Int32)) then (4 : Int32) else (x &&& (7 : Int32))) = 1 ∨ (if (4 : Int32) < (x &&& (7 : Int32)) then (4 : Int32) else (x &&& (7 : Int32))) = 2 ∨ (if (4 : Int32) < (x &&& (7 : Int32)) then (4 : Int32) else (x &&& (7 : Int32))) = 3 ∨ (if (4 : Int32) < (x &&& (7 : Int32)) then (4 : Int32) else (x &&& (7 : Int32))) = 4 := by
  have q := c_and x 7 (by decide)
  have e : (7 : Int32).toInt = 7 := by decide
  rw [e] at q
  by_cases h : (4 : Int32) < (x &&& (7 : Int32))
  · rw [if_pos h]; exact Or.inr (Or.inr (Or.inr (Or.inr rfl)))
  · rw [if_neg h]
    simp only [← Int32.toInt_inj, Int32.lt_iff_toInt_lt] at h ⊢
    generalize (x &&& (7 : Int32)).toInt = w at q h
    have e0 : (0 : Int32).toInt = 0 := by decide
    have e1 : (1 : Int32).toInt = 1 := by decide
    have e2 : (2 : Int32).toInt = 2 := by decide
    have e3 : (3 : Int32).toInt = 3 := by decide
    have e4 : (4 : Int32).toInt = 4 := by decide
    rw [e4] at h
    rw [e0, e1, e2, e3, e4]
    omega
theorem d1_0 : decode method_3_code 0 = .ok (.iload_n 0, 1) := by decide +kernel
theorem d1_1 : decode method_3_code 1 = .ok (.ifCond .ne 7, 3) := by decide +kernel
theorem d1_4 : decode method_3_code 4 = .ok (.iconst 0, 1) := by decide +kernel
theorem d1_5 : decode method_3_code 5 = .ok (.newarray .double, 2) := by decide +kernel
theorem d1_7 : decode method_3_code 7 = .ok (.areturn, 1) := by decide +kernel
theorem pn_com_example_decorum_decorum_graphics_RasterizerClockwisePinLaw : plainName "com/example/decorum/decorum/graphics/RasterizerClockwisePinLaw" = true := by first | (simp [plainName, overriddenIn]; done) | decide +kernel
theorem ef_B0 (m : MethodId) (u0 : Int32) (u1 : Int64) (u2 : Int64) (u3 : Int64) (u4 : Int64) (u5 : Int64) (u6 : Int64) (u7 : Int64) (u8 : Int64) : entryFrame m #[(.int u0), (.long u1), (.long u2), (.long u3), (.long u4), (.long u5), (.long u6), (.long u7), (.long u8)] 17 = mkF m 0 #[.val (.int u0), .val (.long u1), .second, .val (.long u2), .second, .val (.long u3), .second, .val (.long u4), .second, .val (.long u5), .second, .val (.long u6), .second, .val (.long u7), .second, .val (.long u8), .second] [] := by first | (simp [entryFrame, mkF, argsToLocals, Value.category]; done) | rfl
def QB0 (Z : State) (u0 : Int32) (u1 : Int64) (u2 : Int64) (u3 : Int64) (u4 : Int64) (u5 : Int64) (u6 : Int64) (u7 : Int64) (u8 : Int64) (h0 : Heap) (n0 : Nat) (v : Option Value) (h : Heap) (L : List Loc) : Prop := v = some (.ref h0.size) ∧ Fr n0 L ∧ Keep h0 h [] ∧ ∃ kk : ClassId, Arv Z h h0.size kk .double (0 : Int32) [] (.double (0 : UInt64))
set_option maxRecDepth 65536 in
set_option maxHeartbeats 40000000 in
theorem rmB0 (l : Launch) (Z : State) (a0 : Array Value) (hw : ∀ d ∈ tables_1, d.before a0 Z = true) (ws : List Jvm.Cond) (u0 : Int32) (u1 : Int64) (u2 : Int64) (u3 : Int64) (u4 : Int64) (u5 : Int64) (u6 : Int64) (u7 : Int64) (u8 : Int64) (h0 : Heap) (n0 : Nat) (Z0 : n0 ≤ h0.size) (hn : u0 = (0 : Int32)) :
    MetFree l (⟨"com/example/decorum/decorum/graphics/RasterizerClockwisePinLaw", "build", "(IJJJJJJJJ)[D"⟩ : MethodName) (head1 (Jvm.Cond.code (⟨"com/example/decorum/decorum/graphics/RasterizerClockwisePinLaw", "build", "(IJJJJJJJJ)[D"⟩ : MethodName) method_3_code 17 (some (.array .double)) :: ws) ({ frames := 0, cells := 1, slots := 0, locals := 0 } : Room)) (fun a U => a = #[(.int u0), (.long u1), (.long u2), (.long u3), (.long u4), (.long u5), (.long u6), (.long u7), (.long u8)] ∧ Z.Warmed39 U.vm ∧ U.heap = h0) (fun _ _ _ _ _ => True) (fun _ U o U' => ∃ v L, o = .returned v ∧ QB0 Z u0 u1 u2 u3 u4 u5 u6 u7 u8 h0 n0 v U'.heap L ∧ FrameEnd U o U' L ({ frames := 0, cells := 1, slots := 0, locals := 0 } : Room).cells ({ frames := 0, cells := 1, slots := 0, locals := 0 } : Room).slots) := by
  refine MetFree.of_bodySF (plainFor_of_name pn_com_example_decorum_decorum_graphics_RasterizerClockwisePinLaw) hisR ?_
  intro p e s m args below meth c s₁ Bd hml0 hP hK
  obtain ⟨rfl, hZ, hh⟩ := hP
  have hx := Bd.exec
  have hby := Bd.bytes
  have hml : c.maxLocals = 17 := hml0
  have hown : s.vm.findClass "com/example/decorum/decorum/graphics/RasterizerClockwisePinLaw" = some m.cls := findClass_of_methodNamed Bd.named
  have hnm := (name_of_methodNamed Bd.named Bd.method).1
  have X0 : Stand p l e ({ frames := 0, cells := 1, slots := 0, locals := 0 } : Room) s m #[(.int u0), (.long u1), (.long u2), (.long u3), (.long u4), (.long u5), (.long u6), (.long u7), (.long u8)] below meth c s₁ [] 0 0 := Stand.of_body Bd
  have e0 : s₁.heap = h0 := by rw [← hh, Bd.state]; rfl
  have N0 := Fr.nil n0
  have pre0 : ∀ t, Steps p.tables e below (s₁.setTop (mkF m 0 #[.val (.int u0), .val (.long u1), .second, .val (.long u2), .second, .val (.long u3), .second, .val (.long u4), .second, .val (.long u5), .second, .val (.long u6), .second, .val (.long u7), .second, .val (.long u8), .second] [])) t → Steps p.tables e below (s₁.setTop (entryFrame m #[(.int u0), (.long u1), (.long u2), (.long u3), (.long u4), (.long u5), (.long u6), (.long u7), (.long u8)] 17)) t := fun t k => castTop (ef_B0 m u0 u1 u2 u3 u4 u5 u6 u7 u8) k
  obtain ⟨T1, h1, k1, X1, e1, E1, A1, st1⟩ := newP X0 hx hZ (hw _ (List.mem_of_getElem? (i := 4) rfl)) e0 (g := (mkF m 5 #[.val (.int u0), .val (.long u1), .second, .val (.long u2), .second, .val (.long u3), .second, .val (.long u4), .second, .val (.long u5), .second, .val (.long u6), .second, .val (.long u7), .second, .val (.long u8), .second] [(.int (0 : Int32))])) rfl (hb hby d1_5) rfl (by decide) (cap := 0) (by decide) (by decide) (by decide) (by decide)
  obtain ⟨b1, g1⟩ : ∃ z, z = h0.size := ⟨_, rfl⟩
  rw [← g1] at A1 st1
  have g_b1 : n0 ≤ b1 := Nat.le_trans Z0 (Nat.le_of_eq g1.symm)
  have sz_b1 : h0.size ≤ b1 := Nat.le_trans (Keep.refl h0 []).1 (Nat.le_of_eq g1.symm)
  have V1 : Arv Z h1 b1 k1 .double (0 : Int32) [] (.double (0 : UInt64)) := (Arv.new A1 (by decide))
  have Z1 : n0 ≤ h1.size := Nat.le_trans Z0 E1.1
  have KK1 := (Keep.refl h0 []).ext E1
  obtain ⟨fs, hr, hrun, hended, hW, hsame⟩ := X1.leave (v := some (.ref b1)) (fun h => by rw [Bd.returns] at h; cases h)
  refine ⟨_, _, pre0 _ ?_, hrun, hended, _, _, rfl, ?_, ⟨_, rfl⟩, hW, hsame.mono (by decide) (by decide)⟩
  · show Steps p.tables e below (s₁.setTop (mkF m 0 #[.val (.int u0), .val (.long u1), .second, .val (.long u2), .second, .val (.long u3), .second, .val (.long u4), .second, .val (.long u5), .second, .val (.long u6), .second, .val (.long u7), .second, .val (.long u8), .second] [])) _
    refine XS.iloadN X0.here hx rfl (hb hby d1_0) rfl ?_
    refine XS.ifNo X0.here hx rfl (hb hby d1_1) rfl ((if0 _ _).trans (teq hn).2) ?_
    refine XS.iconst X0.here hx rfl (hb hby d1_4) ?_
    refine st1 _ ?_
    show Steps p.tables e below (T1.setTop (mkF m 7 #[.val (.int u0), .val (.long u1), .second, .val (.long u2), .second, .val (.long u3), .second, .val (.long u4), .second, .val (.long u5), .second, .val (.long u6), .second, .val (.long u7), .second, .val (.long u8), .second] [(.ref b1)])) _
    jvm_step X1.here [X1.here.top, hx, (hb hby d1_7), X1.method', Bd.returns, Value.isRef, FieldType.isReference]
    first | (intro acts; rw [hr _ acts rfl rfl rfl]) | rw [hr _ _ rfl rfl rfl]
    exact Steps.refl _
  · show QB0 Z u0 u1 u2 u3 u4 u5 u6 u7 u8 h0 n0 _ T1.heap _
    rw [e1]
    exact ⟨(by rw [g1]), N0, KK1, _, (by rw [← g1]; exact V1)⟩
theorem d1_8 : decode method_3_code 8 = .ok (.iload_n 0, 1) := by decide +kernel
theorem d1_9 : decode method_3_code 9 = .ok (.iconst 1, 1) := by decide +kernel
theorem d1_10 : decode method_3_code 10 = .ok (.if_icmp .ne 17, 3) := by decide +kernel
theorem d1_13 : decode method_3_code 13 = .ok (.iconst 2, 1) := by decide +kernel
theorem d1_14 : decode method_3_code 14 = .ok (.newarray .double, 2) := by decide +kernel
theorem d1_16 : decode method_3_code 16 = .ok (.dup, 1) := by decide +kernel
theorem d1_17 : decode method_3_code 17 = .ok (.iconst 0, 1) := by decide +kernel
theorem d1_18 : decode method_3_code 18 = .ok (.lload_n 1, 1) := by decide +kernel
theorem d1_19 : decode method_3_code 19 = .ok (.l2d, 1) := by decide +kernel
theorem d1_20 : decode method_3_code 20 = .ok (.dastore, 1) := by decide +kernel
theorem d1_21 : decode method_3_code 21 = .ok (.dup, 1) := by decide +kernel
theorem d1_22 : decode method_3_code 22 = .ok (.iconst 1, 1) := by decide +kernel
theorem d1_23 : decode method_3_code 23 = .ok (.lload_n 3, 1) := by decide +kernel
theorem d1_24 : decode method_3_code 24 = .ok (.l2d, 1) := by decide +kernel
theorem d1_25 : decode method_3_code 25 = .ok (.dastore, 1) := by decide +kernel
theorem d1_26 : decode method_3_code 26 = .ok (.areturn, 1) := by decide +kernel
theorem ef_B1 (m : MethodId) (u0 : Int32) (u1 : Int64) (u2 : Int64) (u3 : Int64) (u4 : Int64) (u5 : Int64) (u6 : Int64) (u7 : Int64) (u8 : Int64) : entryFrame m #[(.int u0), (.long u1), (.long u2), (.long u3), (.long u4), (.long u5), (.long u6), (.long u7), (.long u8)] 17 = mkF m 0 #[.val (.int u0), .val (.long u1), .second, .val (.long u2), .second, .val (.long u3), .second, .val (.long u4), .second, .val (.long u5), .second, .val (.long u6), .second, .val (.long u7), .second, .val (.long u8), .second] [] := by first | (simp [entryFrame, mkF, argsToLocals, Value.category]; done) | rfl
def QB1 (Z : State) (u0 : Int32) (u1 : Int64) (u2 : Int64) (u3 : Int64) (u4 : Int64) (u5 : Int64) (u6 : Int64) (u7 : Int64) (u8 : Int64) (d0 : UInt64) (d1 : UInt64) (h0 : Heap) (n0 : Nat) (v : Option Value) (h : Heap) (L : List Loc) : Prop := v = some (.ref h0.size) ∧ Fr n0 L ∧ Keep h0 h [] ∧ ∃ kk : ClassId, Arv Z h h0.size kk .double (2 : Int32) [(.double d0), (.double d1)] (.double (0 : UInt64))
set_option maxRecDepth 65536 in
set_option maxHeartbeats 40000000 in
theorem rmB1 (l : Launch) (Z : State) (a0 : Array Value) (hw : ∀ d ∈ tables_1, d.before a0 Z = true) (ws : List Jvm.Cond) (u0 : Int32) (u1 : Int64) (u2 : Int64) (u3 : Int64) (u4 : Int64) (u5 : Int64) (u6 : Int64) (u7 : Int64) (u8 : Int64) (d0 : UInt64) (d1 : UInt64) (h0 : Heap) (n0 : Nat) (Z0 : n0 ≤ h0.size) (hn : u0 = (1 : Int32)) (e_d0 : d0 = FP.l2d u1) (e_d1 : d1 = FP.l2d u2) :
    MetFree l (⟨"com/example/decorum/decorum/graphics/RasterizerClockwisePinLaw", "build", "(IJJJJJJJJ)[D"⟩ : MethodName) (head1 (Jvm.Cond.code (⟨"com/example/decorum/decorum/graphics/RasterizerClockwisePinLaw", "build", "(IJJJJJJJJ)[D"⟩ : MethodName) method_3_code 17 (some (.array .double)) :: ws) ({ frames := 0, cells := 1, slots := 2, locals := 0 } : Room)) (fun a U => a = #[(.int u0), (.long u1), (.long u2), (.long u3), (.long u4), (.long u5), (.long u6), (.long u7), (.long u8)] ∧ Z.Warmed39 U.vm ∧ U.heap = h0) (fun _ _ _ _ _ => True) (fun _ U o U' => ∃ v L, o = .returned v ∧ QB1 Z u0 u1 u2 u3 u4 u5 u6 u7 u8 d0 d1 h0 n0 v U'.heap L ∧ FrameEnd U o U' L ({ frames := 0, cells := 1, slots := 2, locals := 0 } : Room).cells ({ frames := 0, cells := 1, slots := 2, locals := 0 } : Room).slots) := by
  refine MetFree.of_bodySF (plainFor_of_name pn_com_example_decorum_decorum_graphics_RasterizerClockwisePinLaw) hisR ?_
  intro p e s m args below meth c s₁ Bd hml0 hP hK
  obtain ⟨rfl, hZ, hh⟩ := hP
  have hx := Bd.exec
  have hby := Bd.bytes
  have hml : c.maxLocals = 17 := hml0
  have hown : s.vm.findClass "com/example/decorum/decorum/graphics/RasterizerClockwisePinLaw" = some m.cls := findClass_of_methodNamed Bd.named
  have hnm := (name_of_methodNamed Bd.named Bd.method).1
  have X0 : Stand p l e ({ frames := 0, cells := 1, slots := 2, locals := 0 } : Room) s m #[(.int u0), (.long u1), (.long u2), (.long u3), (.long u4), (.long u5), (.long u6), (.long u7), (.long u8)] below meth c s₁ [] 0 0 := Stand.of_body Bd
  have e0 : s₁.heap = h0 := by rw [← hh, Bd.state]; rfl
  have N0 := Fr.nil n0
  have pre0 : ∀ t, Steps p.tables e below (s₁.setTop (mkF m 0 #[.val (.int u0), .val (.long u1), .second, .val (.long u2), .second, .val (.long u3), .second, .val (.long u4), .second, .val (.long u5), .second, .val (.long u6), .second, .val (.long u7), .second, .val (.long u8), .second] [])) t → Steps p.tables e below (s₁.setTop (entryFrame m #[(.int u0), (.long u1), (.long u2), (.long u3), (.long u4), (.long u5), (.long u6), (.long u7), (.long u8)] 17)) t := fun t k => castTop (ef_B1 m u0 u1 u2 u3 u4 u5 u6 u7 u8) k
  obtain ⟨T1, h1, k1, X1, e1, E1, A1, st1⟩ := newP X0 hx hZ (hw _ (List.mem_of_getElem? (i := 4) rfl)) e0 (g := (mkF m 14 #[.val (.int u0), .val (.long u1), .second, .val (.long u2), .second, .val (.long u3), .second, .val (.long u4), .second, .val (.long u5), .second, .val (.long u6), .second, .val (.long u7), .second, .val (.long u8), .second] [(.int (2 : Int32))])) rfl (hb hby d1_14) rfl (by decide) (cap := 2) (by decide) (by decide) (by decide) (by decide)
  obtain ⟨b1, g1⟩ : ∃ z, z = h0.size := ⟨_, rfl⟩
  rw [← g1] at A1 st1
  have g_b1 : n0 ≤ b1 := Nat.le_trans Z0 (Nat.le_of_eq g1.symm)
  have sz_b1 : h0.size ≤ b1 := Nat.le_trans (Keep.refl h0 []).1 (Nat.le_of_eq g1.symm)
  have V1 : Arv Z h1 b1 k1 .double (2 : Int32) [(.double (0 : UInt64)), (.double (0 : UInt64))] (.double (0 : UInt64)) := (Arv.new A1 (by decide)).pad (pad_rep [] (.double (0 : UInt64)) 2)
  have Z1 : n0 ≤ h1.size := Nat.le_trans Z0 E1.1
  have KK1 := (Keep.refl h0 []).ext E1
  obtain ⟨cl2, Ar2, qa2, Sa2, Na2, Ha2, Ga2⟩ := id V1
  obtain ⟨T3, h3, X3, e3, W3, st3⟩ := stD X1 hx hZ e1 Ar2 (j := (0 : Int32)) (inb_of Sa2 ⟨by decide, by decide⟩) (g := (mkF m 20 #[.val (.int u0), .val (.long u1), .second, .val (.long u2), .second, .val (.long u3), .second, .val (.long u4), .second, .val (.long u5), .second, .val (.long u6), .second, .val (.long u7), .second, .val (.long u8), .second] [(.double d0), (.int (0 : Int32)), (.ref b1), (.ref b1)])) rfl rfl (hb hby d1_20)
  have V3 : Arv Z h3 b1 k1 .double (2 : Int32) [(.double d0), (.double (0 : UInt64))] (.double (0 : UInt64)) := Arv.set Ar2 qa2 Sa2 Na2 Ha2 Ga2 rfl W3 0 rfl (Nat.le_of_ble_eq_true rfl)
  have N3 := Fr.snoc X3 N0 g_b1
  have Z3 : n0 ≤ h3.size := Nat.le_trans Z1 (Keep.of_wr W3).1
  have KK3 := KK1.wr W3 (Or.inr sz_b1)
  obtain ⟨cl4, Ar4, qa4, Sa4, Na4, Ha4, Ga4⟩ := id V3
  obtain ⟨T5, h5, X5, e5, W5, st5⟩ := stD X3 hx hZ e3 Ar4 (j := (1 : Int32)) (inb_of Sa4 ⟨by decide, by decide⟩) (g := (mkF m 25 #[.val (.int u0), .val (.long u1), .second, .val (.long u2), .second, .val (.long u3), .second, .val (.long u4), .second, .val (.long u5), .second, .val (.long u6), .second, .val (.long u7), .second, .val (.long u8), .second] [(.double d1), (.int (1 : Int32)), (.ref b1), (.ref b1)])) rfl rfl (hb hby d1_25)
  have V5 : Arv Z h5 b1 k1 .double (2 : Int32) [(.double d0), (.double d1)] (.double (0 : UInt64)) := Arv.set Ar4 qa4 Sa4 Na4 Ha4 Ga4 rfl W5 1 rfl (Nat.le_of_ble_eq_true rfl)
  have N5 := Fr.snoc X5 N3 g_b1
  have Z5 : n0 ≤ h5.size := Nat.le_trans Z3 (Keep.of_wr W5).1
  have KK5 := KK3.wr W5 (Or.inr sz_b1)
  obtain ⟨fs, hr, hrun, hended, hW, hsame⟩ := X5.leave (v := some (.ref b1)) (fun h => by rw [Bd.returns] at h; cases h)
  refine ⟨_, _, pre0 _ ?_, hrun, hended, _, _, rfl, ?_, ⟨_, rfl⟩, hW, hsame.mono (by decide) (by decide)⟩
  · show Steps p.tables e below (s₁.setTop (mkF m 0 #[.val (.int u0), .val (.long u1), .second, .val (.long u2), .second, .val (.long u3), .second, .val (.long u4), .second, .val (.long u5), .second, .val (.long u6), .second, .val (.long u7), .second, .val (.long u8), .second] [])) _
    refine XS.iloadN X0.here hx rfl (hb hby d1_0) rfl ?_
    refine XS.ifYes X0.here hx rfl (pc0 := 1) (pc' := 8) rfl (hb hby d1_1) rfl ((if0 _ _).trans (feq (by rw [hn]; decide)).2) (by decide) (by decide) ?_
    refine XS.iloadN X0.here hx rfl (hb hby d1_8) rfl ?_
    refine XS.iconst X0.here hx rfl (hb hby d1_9) ?_
    refine XS.icmpNo X0.here hx rfl (hb hby d1_10) rfl (teq hn).2 ?_
    refine XS.iconst X0.here hx rfl (hb hby d1_13) ?_
    refine st1 _ ?_
    show Steps p.tables e below (T1.setTop (mkF m 16 #[.val (.int u0), .val (.long u1), .second, .val (.long u2), .second, .val (.long u3), .second, .val (.long u4), .second, .val (.long u5), .second, .val (.long u6), .second, .val (.long u7), .second, .val (.long u8), .second] [(.ref b1)])) _
    refine XS.dup X1.here hx rfl (hb hby d1_16) rfl rfl ?_
    refine XS.iconst X1.here hx rfl (hb hby d1_17) ?_
    refine XS.lloadN X1.here hx rfl (hb hby d1_18) rfl ?_
    refine XS.l2dS X1.here hx rfl (hb hby d1_19) rfl (v := d0) e_d0.symm ?_
    refine st3 _ ?_
    show Steps p.tables e below (T3.setTop (mkF m 21 #[.val (.int u0), .val (.long u1), .second, .val (.long u2), .second, .val (.long u3), .second, .val (.long u4), .second, .val (.long u5), .second, .val (.long u6), .second, .val (.long u7), .second, .val (.long u8), .second] [(.ref b1)])) _
    refine XS.dup X3.here hx rfl (hb hby d1_21) rfl rfl ?_
    refine XS.iconst X3.here hx rfl (hb hby d1_22) ?_
    refine XS.lloadN X3.here hx rfl (hb hby d1_23) rfl ?_
    refine XS.l2dS X3.here hx rfl (hb hby d1_24) rfl (v := d1) e_d1.symm ?_
    refine st5 _ ?_
    show Steps p.tables e below (T5.setTop (mkF m 26 #[.val (.int u0), .val (.long u1), .second, .val (.long u2), .second, .val (.long u3), .second, .val (.long u4), .second, .val (.long u5), .second, .val (.long u6), .second, .val (.long u7), .second, .val (.long u8), .second] [(.ref b1)])) _
    jvm_step X5.here [X5.here.top, hx, (hb hby d1_26), X5.method', Bd.returns, Value.isRef, FieldType.isReference]
    first | (intro acts; rw [hr _ acts rfl rfl rfl]) | rw [hr _ _ rfl rfl rfl]
    exact Steps.refl _
  · show QB1 Z u0 u1 u2 u3 u4 u5 u6 u7 u8 d0 d1 h0 n0 _ T5.heap _
    rw [e5]
    exact ⟨(by rw [g1]), N5, KK5, _, (by rw [← g1]; exact V5)⟩
theorem d1_27 : decode method_3_code 27 = .ok (.iload_n 0, 1) := by decide +kernel
theorem d1_28 : decode method_3_code 28 = .ok (.iconst 2, 1) := by decide +kernel
theorem d1_29 : decode method_3_code 29 = .ok (.if_icmp .ne 29, 3) := by decide +kernel
theorem d1_32 : decode method_3_code 32 = .ok (.iconst 4, 1) := by decide +kernel
theorem d1_33 : decode method_3_code 33 = .ok (.newarray .double, 2) := by decide +kernel
theorem d1_35 : decode method_3_code 35 = .ok (.dup, 1) := by decide +kernel
theorem d1_36 : decode method_3_code 36 = .ok (.iconst 0, 1) := by decide +kernel
theorem d1_37 : decode method_3_code 37 = .ok (.lload_n 1, 1) := by decide +kernel
theorem d1_38 : decode method_3_code 38 = .ok (.l2d, 1) := by decide +kernel
theorem d1_39 : decode method_3_code 39 = .ok (.dastore, 1) := by decide +kernel
theorem d1_40 : decode method_3_code 40 = .ok (.dup, 1) := by decide +kernel
theorem d1_41 : decode method_3_code 41 = .ok (.iconst 1, 1) := by decide +kernel
theorem d1_42 : decode method_3_code 42 = .ok (.lload_n 3, 1) := by decide +kernel
theorem d1_43 : decode method_3_code 43 = .ok (.l2d, 1) := by decide +kernel
theorem d1_44 : decode method_3_code 44 = .ok (.dastore, 1) := by decide +kernel
theorem d1_45 : decode method_3_code 45 = .ok (.dup, 1) := by decide +kernel
theorem d1_46 : decode method_3_code 46 = .ok (.iconst 2, 1) := by decide +kernel
theorem d1_47 : decode method_3_code 47 = .ok (.lload 5, 2) := by decide +kernel
theorem d1_49 : decode method_3_code 49 = .ok (.l2d, 1) := by decide +kernel
theorem d1_50 : decode method_3_code 50 = .ok (.dastore, 1) := by decide +kernel
theorem d1_51 : decode method_3_code 51 = .ok (.dup, 1) := by decide +kernel
theorem d1_52 : decode method_3_code 52 = .ok (.iconst 3, 1) := by decide +kernel
theorem d1_53 : decode method_3_code 53 = .ok (.lload 7, 2) := by decide +kernel
theorem d1_55 : decode method_3_code 55 = .ok (.l2d, 1) := by decide +kernel
theorem d1_56 : decode method_3_code 56 = .ok (.dastore, 1) := by decide +kernel
theorem d1_57 : decode method_3_code 57 = .ok (.areturn, 1) := by decide +kernel
theorem ef_B2 (m : MethodId) (u0 : Int32) (u1 : Int64) (u2 : Int64) (u3 : Int64) (u4 : Int64) (u5 : Int64) (u6 : Int64) (u7 : Int64) (u8 : Int64) : entryFrame m #[(.int u0), (.long u1), (.long u2), (.long u3), (.long u4), (.long u5), (.long u6), (.long u7), (.long u8)] 17 = mkF m 0 #[.val (.int u0), .val (.long u1), .second, .val (.long u2), .second, .val (.long u3), .second, .val (.long u4), .second, .val (.long u5), .second, .val (.long u6), .second, .val (.long u7), .second, .val (.long u8), .second] [] := by first | (simp [entryFrame, mkF, argsToLocals, Value.category]; done) | rfl
def QB2 (Z : State) (u0 : Int32) (u1 : Int64) (u2 : Int64) (u3 : Int64) (u4 : Int64) (u5 : Int64) (u6 : Int64) (u7 : Int64) (u8 : Int64) (d0 : UInt64) (d1 : UInt64) (d2 : UInt64) (d3 : UInt64) (h0 : Heap) (n0 : Nat) (v : Option Value) (h : Heap) (L : List Loc) : Prop := v = some (.ref h0.size) ∧ Fr n0 L ∧ Keep h0 h [] ∧ ∃ kk : ClassId, Arv Z h h0.size kk .double (4 : Int32) [(.double d0), (.double d1), (.double d2), (.double d3)] (.double (0 : UInt64))
set_option maxRecDepth 65536 in
set_option maxHeartbeats 40000000 in
theorem rmB2 (l : Launch) (Z : State) (a0 : Array Value) (hw : ∀ d ∈ tables_1, d.before a0 Z = true) (ws : List Jvm.Cond) (u0 : Int32) (u1 : Int64) (u2 : Int64) (u3 : Int64) (u4 : Int64) (u5 : Int64) (u6 : Int64) (u7 : Int64) (u8 : Int64) (d0 : UInt64) (d1 : UInt64) (d2 : UInt64) (d3 : UInt64) (h0 : Heap) (n0 : Nat) (Z0 : n0 ≤ h0.size) (hn : u0 = (2 : Int32)) (e_d0 : d0 = FP.l2d u1) (e_d1 : d1 = FP.l2d u2) (e_d2 : d2 = FP.l2d u3) (e_d3 : d3 = FP.l2d u4) :
    MetFree l (⟨"com/example/decorum/decorum/graphics/RasterizerClockwisePinLaw", "build", "(IJJJJJJJJ)[D"⟩ : MethodName) (head1 (Jvm.Cond.code (⟨"com/example/decorum/decorum/graphics/RasterizerClockwisePinLaw", "build", "(IJJJJJJJJ)[D"⟩ : MethodName) method_3_code 17 (some (.array .double)) :: ws) ({ frames := 0, cells := 1, slots := 4, locals := 0 } : Room)) (fun a U => a = #[(.int u0), (.long u1), (.long u2), (.long u3), (.long u4), (.long u5), (.long u6), (.long u7), (.long u8)] ∧ Z.Warmed39 U.vm ∧ U.heap = h0) (fun _ _ _ _ _ => True) (fun _ U o U' => ∃ v L, o = .returned v ∧ QB2 Z u0 u1 u2 u3 u4 u5 u6 u7 u8 d0 d1 d2 d3 h0 n0 v U'.heap L ∧ FrameEnd U o U' L ({ frames := 0, cells := 1, slots := 4, locals := 0 } : Room).cells ({ frames := 0, cells := 1, slots := 4, locals := 0 } : Room).slots) := by
  refine MetFree.of_bodySF (plainFor_of_name pn_com_example_decorum_decorum_graphics_RasterizerClockwisePinLaw) hisR ?_
  intro p e s m args below meth c s₁ Bd hml0 hP hK
  obtain ⟨rfl, hZ, hh⟩ := hP
  have hx := Bd.exec
  have hby := Bd.bytes
  have hml : c.maxLocals = 17 := hml0
  have hown : s.vm.findClass "com/example/decorum/decorum/graphics/RasterizerClockwisePinLaw" = some m.cls := findClass_of_methodNamed Bd.named
  have hnm := (name_of_methodNamed Bd.named Bd.method).1
  have X0 : Stand p l e ({ frames := 0, cells := 1, slots := 4, locals := 0 } : Room) s m #[(.int u0), (.long u1), (.long u2), (.long u3), (.long u4), (.long u5), (.long u6), (.long u7), (.long u8)] below meth c s₁ [] 0 0 := Stand.of_body Bd
  have e0 : s₁.heap = h0 := by rw [← hh, Bd.state]; rfl
  have N0 := Fr.nil n0
  have pre0 : ∀ t, Steps p.tables e below (s₁.setTop (mkF m 0 #[.val (.int u0), .val (.long u1), .second, .val (.long u2), .second, .val (.long u3), .second, .val (.long u4), .second, .val (.long u5), .second, .val (.long u6), .second, .val (.long u7), .second, .val (.long u8), .second] [])) t → Steps p.tables e below (s₁.setTop (entryFrame m #[(.int u0), (.long u1), (.long u2), (.long u3), (.long u4), (.long u5), (.long u6), (.long u7), (.long u8)] 17)) t := fun t k => castTop (ef_B2 m u0 u1 u2 u3 u4 u5 u6 u7 u8) k
  obtain ⟨T1, h1, k1, X1, e1, E1, A1, st1⟩ := newP X0 hx hZ (hw _ (List.mem_of_getElem? (i := 4) rfl)) e0 (g := (mkF m 33 #[.val (.int u0), .val (.long u1), .second, .val (.long u2), .second, .val (.long u3), .second, .val (.long u4), .second, .val (.long u5), .second, .val (.long u6), .second, .val (.long u7), .second, .val (.long u8), .second] [(.int (4 : Int32))])) rfl (hb hby d1_33) rfl (by decide) (cap := 4) (by decide) (by decide) (by decide) (by decide)
  obtain ⟨b1, g1⟩ : ∃ z, z = h0.size := ⟨_, rfl⟩
  rw [← g1] at A1 st1
  have g_b1 : n0 ≤ b1 := Nat.le_trans Z0 (Nat.le_of_eq g1.symm)
  have sz_b1 : h0.size ≤ b1 := Nat.le_trans (Keep.refl h0 []).1 (Nat.le_of_eq g1.symm)
  have V1 : Arv Z h1 b1 k1 .double (4 : Int32) [(.double (0 : UInt64)), (.double (0 : UInt64)), (.double (0 : UInt64)), (.double (0 : UInt64))] (.double (0 : UInt64)) := (Arv.new A1 (by decide)).pad (pad_rep [] (.double (0 : UInt64)) 4)
  have Z1 : n0 ≤ h1.size := Nat.le_trans Z0 E1.1
  have KK1 := (Keep.refl h0 []).ext E1
  obtain ⟨cl2, Ar2, qa2, Sa2, Na2, Ha2, Ga2⟩ := id V1
  obtain ⟨T3, h3, X3, e3, W3, st3⟩ := stD X1 hx hZ e1 Ar2 (j := (0 : Int32)) (inb_of Sa2 ⟨by decide, by decide⟩) (g := (mkF m 39 #[.val (.int u0), .val (.long u1), .second, .val (.long u2), .second, .val (.long u3), .second, .val (.long u4), .second, .val (.long u5), .second, .val (.long u6), .second, .val (.long u7), .second, .val (.long u8), .second] [(.double d0), (.int (0 : Int32)), (.ref b1), (.ref b1)])) rfl rfl (hb hby d1_39)
  have V3 : Arv Z h3 b1 k1 .double (4 : Int32) [(.double d0), (.double (0 : UInt64)), (.double (0 : UInt64)), (.double (0 : UInt64))] (.double (0 : UInt64)) := Arv.set Ar2 qa2 Sa2 Na2 Ha2 Ga2 rfl W3 0 rfl (Nat.le_of_ble_eq_true rfl)
  have N3 := Fr.snoc X3 N0 g_b1
  have Z3 : n0 ≤ h3.size := Nat.le_trans Z1 (Keep.of_wr W3).1
  have KK3 := KK1.wr W3 (Or.inr sz_b1)
  obtain ⟨cl4, Ar4, qa4, Sa4, Na4, Ha4, Ga4⟩ := id V3
  obtain ⟨T5, h5, X5, e5, W5, st5⟩ := stD X3 hx hZ e3 Ar4 (j := (1 : Int32)) (inb_of Sa4 ⟨by decide, by decide⟩) (g := (mkF m 44 #[.val (.int u0), .val (.long u1), .second, .val (.long u2), .second, .val (.long u3), .second, .val (.long u4), .second, .val (.long u5), .second, .val (.long u6), .second, .val (.long u7), .second, .val (.long u8), .second] [(.double d1), (.int (1 : Int32)), (.ref b1), (.ref b1)])) rfl rfl (hb hby d1_44)
  have V5 : Arv Z h5 b1 k1 .double (4 : Int32) [(.double d0), (.double d1), (.double (0 : UInt64)), (.double (0 : UInt64))] (.double (0 : UInt64)) := Arv.set Ar4 qa4 Sa4 Na4 Ha4 Ga4 rfl W5 1 rfl (Nat.le_of_ble_eq_true rfl)
  have N5 := Fr.snoc X5 N3 g_b1
  have Z5 : n0 ≤ h5.size := Nat.le_trans Z3 (Keep.of_wr W5).1
  have KK5 := KK3.wr W5 (Or.inr sz_b1)
  obtain ⟨cl6, Ar6, qa6, Sa6, Na6, Ha6, Ga6⟩ := id V5
  obtain ⟨T7, h7, X7, e7, W7, st7⟩ := stD X5 hx hZ e5 Ar6 (j := (2 : Int32)) (inb_of Sa6 ⟨by decide, by decide⟩) (g := (mkF m 50 #[.val (.int u0), .val (.long u1), .second, .val (.long u2), .second, .val (.long u3), .second, .val (.long u4), .second, .val (.long u5), .second, .val (.long u6), .second, .val (.long u7), .second, .val (.long u8), .second] [(.double d2), (.int (2 : Int32)), (.ref b1), (.ref b1)])) rfl rfl (hb hby d1_50)
  have V7 : Arv Z h7 b1 k1 .double (4 : Int32) [(.double d0), (.double d1), (.double d2), (.double (0 : UInt64))] (.double (0 : UInt64)) := Arv.set Ar6 qa6 Sa6 Na6 Ha6 Ga6 rfl W7 2 rfl (Nat.le_of_ble_eq_true rfl)
  have N7 := Fr.snoc X7 N5 g_b1
  have Z7 : n0 ≤ h7.size := Nat.le_trans Z5 (Keep.of_wr W7).1
  have KK7 := KK5.wr W7 (Or.inr sz_b1)
  obtain ⟨cl8, Ar8, qa8, Sa8, Na8, Ha8, Ga8⟩ := id V7
  obtain ⟨T9, h9, X9, e9, W9, st9⟩ := stD X7 hx hZ e7 Ar8 (j := (3 : Int32)) (inb_of Sa8 ⟨by decide, by decide⟩) (g := (mkF m 56 #[.val (.int u0), .val (.long u1), .second, .val (.long u2), .second, .val (.long u3), .second, .val (.long u4), .second, .val (.long u5), .second, .val (.long u6), .second, .val (.long u7), .second, .val (.long u8), .second] [(.double d3), (.int (3 : Int32)), (.ref b1), (.ref b1)])) rfl rfl (hb hby d1_56)
  have V9 : Arv Z h9 b1 k1 .double (4 : Int32) [(.double d0), (.double d1), (.double d2), (.double d3)] (.double (0 : UInt64)) := Arv.set Ar8 qa8 Sa8 Na8 Ha8 Ga8 rfl W9 3 rfl (Nat.le_of_ble_eq_true rfl)
  have N9 := Fr.snoc X9 N7 g_b1
  have Z9 : n0 ≤ h9.size := Nat.le_trans Z7 (Keep.of_wr W9).1
  have KK9 := KK7.wr W9 (Or.inr sz_b1)
  obtain ⟨fs, hr, hrun, hended, hW, hsame⟩ := X9.leave (v := some (.ref b1)) (fun h => by rw [Bd.returns] at h; cases h)
  refine ⟨_, _, pre0 _ ?_, hrun, hended, _, _, rfl, ?_, ⟨_, rfl⟩, hW, hsame.mono (by decide) (by decide)⟩
  · show Steps p.tables e below (s₁.setTop (mkF m 0 #[.val (.int u0), .val (.long u1), .second, .val (.long u2), .second, .val (.long u3), .second, .val (.long u4), .second, .val (.long u5), .second, .val (.long u6), .second, .val (.long u7), .second, .val (.long u8), .second] [])) _
    refine XS.iloadN X0.here hx rfl (hb hby d1_0) rfl ?_
    refine XS.ifYes X0.here hx rfl (pc0 := 1) (pc' := 8) rfl (hb hby d1_1) rfl ((if0 _ _).trans (feq (by rw [hn]; decide)).2) (by decide) (by decide) ?_
    refine XS.iloadN X0.here hx rfl (hb hby d1_8) rfl ?_
    refine XS.iconst X0.here hx rfl (hb hby d1_9) ?_
    refine XS.icmpYes X0.here hx rfl (pc0 := 10) (pc' := 27) rfl (hb hby d1_10) rfl (feq (by rw [hn]; decide)).2 (by decide) (by decide) ?_
    refine XS.iloadN X0.here hx rfl (hb hby d1_27) rfl ?_
    refine XS.iconst X0.here hx rfl (hb hby d1_28) ?_
    refine XS.icmpNo X0.here hx rfl (hb hby d1_29) rfl (teq hn).2 ?_
    refine XS.iconst X0.here hx rfl (hb hby d1_32) ?_
    refine st1 _ ?_
    show Steps p.tables e below (T1.setTop (mkF m 35 #[.val (.int u0), .val (.long u1), .second, .val (.long u2), .second, .val (.long u3), .second, .val (.long u4), .second, .val (.long u5), .second, .val (.long u6), .second, .val (.long u7), .second, .val (.long u8), .second] [(.ref b1)])) _
    refine XS.dup X1.here hx rfl (hb hby d1_35) rfl rfl ?_
    refine XS.iconst X1.here hx rfl (hb hby d1_36) ?_
    refine XS.lloadN X1.here hx rfl (hb hby d1_37) rfl ?_
    refine XS.l2dS X1.here hx rfl (hb hby d1_38) rfl (v := d0) e_d0.symm ?_
    refine st3 _ ?_
    show Steps p.tables e below (T3.setTop (mkF m 40 #[.val (.int u0), .val (.long u1), .second, .val (.long u2), .second, .val (.long u3), .second, .val (.long u4), .second, .val (.long u5), .second, .val (.long u6), .second, .val (.long u7), .second, .val (.long u8), .second] [(.ref b1)])) _
    refine XS.dup X3.here hx rfl (hb hby d1_40) rfl rfl ?_
    refine XS.iconst X3.here hx rfl (hb hby d1_41) ?_
    refine XS.lloadN X3.here hx rfl (hb hby d1_42) rfl ?_
    refine XS.l2dS X3.here hx rfl (hb hby d1_43) rfl (v := d1) e_d1.symm ?_
    refine st5 _ ?_
    show Steps p.tables e below (T5.setTop (mkF m 45 #[.val (.int u0), .val (.long u1), .second, .val (.long u2), .second, .val (.long u3), .second, .val (.long u4), .second, .val (.long u5), .second, .val (.long u6), .second, .val (.long u7), .second, .val (.long u8), .second] [(.ref b1)])) _
    refine XS.dup X5.here hx rfl (hb hby d1_45) rfl rfl ?_
    refine XS.iconst X5.here hx rfl (hb hby d1_46) ?_
    refine XS.lload X5.here hx rfl (hb hby d1_47) rfl ?_
    refine XS.l2dS X5.here hx rfl (hb hby d1_49) rfl (v := d2) e_d2.symm ?_
    refine st7 _ ?_
    show Steps p.tables e below (T7.setTop (mkF m 51 #[.val (.int u0), .val (.long u1), .second, .val (.long u2), .second, .val (.long u3), .second, .val (.long u4), .second, .val (.long u5), .second, .val (.long u6), .second, .val (.long u7), .second, .val (.long u8), .second] [(.ref b1)])) _
    refine XS.dup X7.here hx rfl (hb hby d1_51) rfl rfl ?_
    refine XS.iconst X7.here hx rfl (hb hby d1_52) ?_
    refine XS.lload X7.here hx rfl (hb hby d1_53) rfl ?_
    refine XS.l2dS X7.here hx rfl (hb hby d1_55) rfl (v := d3) e_d3.symm ?_
    refine st9 _ ?_
    show Steps p.tables e below (T9.setTop (mkF m 57 #[.val (.int u0), .val (.long u1), .second, .val (.long u2), .second, .val (.long u3), .second, .val (.long u4), .second, .val (.long u5), .second, .val (.long u6), .second, .val (.long u7), .second, .val (.long u8), .second] [(.ref b1)])) _
    jvm_step X9.here [X9.here.top, hx, (hb hby d1_57), X9.method', Bd.returns, Value.isRef, FieldType.isReference]
    first | (intro acts; rw [hr _ acts rfl rfl rfl]) | rw [hr _ _ rfl rfl rfl]
    exact Steps.refl _
  · show QB2 Z u0 u1 u2 u3 u4 u5 u6 u7 u8 d0 d1 d2 d3 h0 n0 _ T9.heap _
    rw [e9]
    exact ⟨(by rw [g1]), N9, KK9, _, (by rw [← g1]; exact V9)⟩
theorem d1_58 : decode method_3_code 58 = .ok (.iload_n 0, 1) := by decide +kernel
theorem d1_59 : decode method_3_code 59 = .ok (.iconst 3, 1) := by decide +kernel
theorem d1_60 : decode method_3_code 60 = .ok (.if_icmp .ne 42, 3) := by decide +kernel
theorem d1_63 : decode method_3_code 63 = .ok (.bipush 6, 2) := by decide +kernel
theorem d1_65 : decode method_3_code 65 = .ok (.newarray .double, 2) := by decide +kernel
theorem d1_67 : decode method_3_code 67 = .ok (.dup, 1) := by decide +kernel
theorem d1_68 : decode method_3_code 68 = .ok (.iconst 0, 1) := by decide +kernel
theorem d1_69 : decode method_3_code 69 = .ok (.lload_n 1, 1) := by decide +kernel
theorem d1_70 : decode method_3_code 70 = .ok (.l2d, 1) := by decide +kernel
theorem d1_71 : decode method_3_code 71 = .ok (.dastore, 1) := by decide +kernel
theorem d1_72 : decode method_3_code 72 = .ok (.dup, 1) := by decide +kernel
theorem d1_73 : decode method_3_code 73 = .ok (.iconst 1, 1) := by decide +kernel
theorem d1_74 : decode method_3_code 74 = .ok (.lload_n 3, 1) := by decide +kernel
theorem d1_75 : decode method_3_code 75 = .ok (.l2d, 1) := by decide +kernel
theorem d1_76 : decode method_3_code 76 = .ok (.dastore, 1) := by decide +kernel
theorem d1_77 : decode method_3_code 77 = .ok (.dup, 1) := by decide +kernel
theorem d1_78 : decode method_3_code 78 = .ok (.iconst 2, 1) := by decide +kernel
theorem d1_79 : decode method_3_code 79 = .ok (.lload 5, 2) := by decide +kernel
theorem d1_81 : decode method_3_code 81 = .ok (.l2d, 1) := by decide +kernel
theorem d1_82 : decode method_3_code 82 = .ok (.dastore, 1) := by decide +kernel
theorem d1_83 : decode method_3_code 83 = .ok (.dup, 1) := by decide +kernel
theorem d1_84 : decode method_3_code 84 = .ok (.iconst 3, 1) := by decide +kernel
theorem d1_85 : decode method_3_code 85 = .ok (.lload 7, 2) := by decide +kernel
theorem d1_87 : decode method_3_code 87 = .ok (.l2d, 1) := by decide +kernel
theorem d1_88 : decode method_3_code 88 = .ok (.dastore, 1) := by decide +kernel
theorem d1_89 : decode method_3_code 89 = .ok (.dup, 1) := by decide +kernel
theorem d1_90 : decode method_3_code 90 = .ok (.iconst 4, 1) := by decide +kernel
theorem d1_91 : decode method_3_code 91 = .ok (.lload 9, 2) := by decide +kernel
theorem d1_93 : decode method_3_code 93 = .ok (.l2d, 1) := by decide +kernel
theorem d1_94 : decode method_3_code 94 = .ok (.dastore, 1) := by decide +kernel
theorem d1_95 : decode method_3_code 95 = .ok (.dup, 1) := by decide +kernel
theorem d1_96 : decode method_3_code 96 = .ok (.iconst 5, 1) := by decide +kernel
theorem d1_97 : decode method_3_code 97 = .ok (.lload 11, 2) := by decide +kernel
theorem d1_99 : decode method_3_code 99 = .ok (.l2d, 1) := by decide +kernel
theorem d1_100 : decode method_3_code 100 = .ok (.dastore, 1) := by decide +kernel
theorem d1_101 : decode method_3_code 101 = .ok (.areturn, 1) := by decide +kernel
theorem ef_B3 (m : MethodId) (u0 : Int32) (u1 : Int64) (u2 : Int64) (u3 : Int64) (u4 : Int64) (u5 : Int64) (u6 : Int64) (u7 : Int64) (u8 : Int64) : entryFrame m #[(.int u0), (.long u1), (.long u2), (.long u3), (.long u4), (.long u5), (.long u6), (.long u7), (.long u8)] 17 = mkF m 0 #[.val (.int u0), .val (.long u1), .second, .val (.long u2), .second, .val (.long u3), .second, .val (.long u4), .second, .val (.long u5), .second, .val (.long u6), .second, .val (.long u7), .second, .val (.long u8), .second] [] := by first | (simp [entryFrame, mkF, argsToLocals, Value.category]; done) | rfl
def QB3 (Z : State) (u0 : Int32) (u1 : Int64) (u2 : Int64) (u3 : Int64) (u4 : Int64) (u5 : Int64) (u6 : Int64) (u7 : Int64) (u8 : Int64) (d0 : UInt64) (d1 : UInt64) (d2 : UInt64) (d3 : UInt64) (d4 : UInt64) (d5 : UInt64) (h0 : Heap) (n0 : Nat) (v : Option Value) (h : Heap) (L : List Loc) : Prop := v = some (.ref h0.size) ∧ Fr n0 L ∧ Keep h0 h [] ∧ ∃ kk : ClassId, Arv Z h h0.size kk .double (6 : Int32) [(.double d0), (.double d1), (.double d2), (.double d3), (.double d4), (.double d5)] (.double (0 : UInt64))
set_option maxRecDepth 65536 in
set_option maxHeartbeats 40000000 in
theorem rmB3 (l : Launch) (Z : State) (a0 : Array Value) (hw : ∀ d ∈ tables_1, d.before a0 Z = true) (ws : List Jvm.Cond) (u0 : Int32) (u1 : Int64) (u2 : Int64) (u3 : Int64) (u4 : Int64) (u5 : Int64) (u6 : Int64) (u7 : Int64) (u8 : Int64) (d0 : UInt64) (d1 : UInt64) (d2 : UInt64) (d3 : UInt64) (d4 : UInt64) (d5 : UInt64) (h0 : Heap) (n0 : Nat) (Z0 : n0 ≤ h0.size) (hn : u0 = (3 : Int32)) (e_d0 : d0 = FP.l2d u1) (e_d1 : d1 = FP.l2d u2) (e_d2 : d2 = FP.l2d u3) (e_d3 : d3 = FP.l2d u4) (e_d4 : d4 = FP.l2d u5) (e_d5 : d5 = FP.l2d u6) :
    MetFree l (⟨"com/example/decorum/decorum/graphics/RasterizerClockwisePinLaw", "build", "(IJJJJJJJJ)[D"⟩ : MethodName) (head1 (Jvm.Cond.code (⟨"com/example/decorum/decorum/graphics/RasterizerClockwisePinLaw", "build", "(IJJJJJJJJ)[D"⟩ : MethodName) method_3_code 17 (some (.array .double)) :: ws) ({ frames := 0, cells := 1, slots := 6, locals := 0 } : Room)) (fun a U => a = #[(.int u0), (.long u1), (.long u2), (.long u3), (.long u4), (.long u5), (.long u6), (.long u7), (.long u8)] ∧ Z.Warmed39 U.vm ∧ U.heap = h0) (fun _ _ _ _ _ => True) (fun _ U o U' => ∃ v L, o = .returned v ∧ QB3 Z u0 u1 u2 u3 u4 u5 u6 u7 u8 d0 d1 d2 d3 d4 d5 h0 n0 v U'.heap L ∧ FrameEnd U o U' L ({ frames := 0, cells := 1, slots := 6, locals := 0 } : Room).cells ({ frames := 0, cells := 1, slots := 6, locals := 0 } : Room).slots) := by
  refine MetFree.of_bodySF (plainFor_of_name pn_com_example_decorum_decorum_graphics_RasterizerClockwisePinLaw) hisR ?_
  intro p e s m args below meth c s₁ Bd hml0 hP hK
  obtain ⟨rfl, hZ, hh⟩ := hP
  have hx := Bd.exec
  have hby := Bd.bytes
  have hml : c.maxLocals = 17 := hml0
  have hown : s.vm.findClass "com/example/decorum/decorum/graphics/RasterizerClockwisePinLaw" = some m.cls := findClass_of_methodNamed Bd.named
  have hnm := (name_of_methodNamed Bd.named Bd.method).1
  have X0 : Stand p l e ({ frames := 0, cells := 1, slots := 6, locals := 0 } : Room) s m #[(.int u0), (.long u1), (.long u2), (.long u3), (.long u4), (.long u5), (.long u6), (.long u7), (.long u8)] below meth c s₁ [] 0 0 := Stand.of_body Bd
  have e0 : s₁.heap = h0 := by rw [← hh, Bd.state]; rfl
  have N0 := Fr.nil n0
  have pre0 : ∀ t, Steps p.tables e below (s₁.setTop (mkF m 0 #[.val (.int u0), .val (.long u1), .second, .val (.long u2), .second, .val (.long u3), .second, .val (.long u4), .second, .val (.long u5), .second, .val (.long u6), .second, .val (.long u7), .second, .val (.long u8), .second] [])) t → Steps p.tables e below (s₁.setTop (entryFrame m #[(.int u0), (.long u1), (.long u2), (.long u3), (.long u4), (.long u5), (.long u6), (.long u7), (.long u8)] 17)) t := fun t k => castTop (ef_B3 m u0 u1 u2 u3 u4 u5 u6 u7 u8) k
  obtain ⟨T1, h1, k1, X1, e1, E1, A1, st1⟩ := newP X0 hx hZ (hw _ (List.mem_of_getElem? (i := 4) rfl)) e0 (g := (mkF m 65 #[.val (.int u0), .val (.long u1), .second, .val (.long u2), .second, .val (.long u3), .second, .val (.long u4), .second, .val (.long u5), .second, .val (.long u6), .second, .val (.long u7), .second, .val (.long u8), .second] [(.int (6 : Int32))])) rfl (hb hby d1_65) rfl (by decide) (cap := 6) (by decide) (by decide) (by decide) (by decide)
  obtain ⟨b1, g1⟩ : ∃ z, z = h0.size := ⟨_, rfl⟩
  rw [← g1] at A1 st1
  have g_b1 : n0 ≤ b1 := Nat.le_trans Z0 (Nat.le_of_eq g1.symm)
  have sz_b1 : h0.size ≤ b1 := Nat.le_trans (Keep.refl h0 []).1 (Nat.le_of_eq g1.symm)
  have V1 : Arv Z h1 b1 k1 .double (6 : Int32) [(.double (0 : UInt64)), (.double (0 : UInt64)), (.double (0 : UInt64)), (.double (0 : UInt64)), (.double (0 : UInt64)), (.double (0 : UInt64))] (.double (0 : UInt64)) := (Arv.new A1 (by decide)).pad (pad_rep [] (.double (0 : UInt64)) 6)
  have Z1 : n0 ≤ h1.size := Nat.le_trans Z0 E1.1
  have KK1 := (Keep.refl h0 []).ext E1
  obtain ⟨cl2, Ar2, qa2, Sa2, Na2, Ha2, Ga2⟩ := id V1
  obtain ⟨T3, h3, X3, e3, W3, st3⟩ := stD X1 hx hZ e1 Ar2 (j := (0 : Int32)) (inb_of Sa2 ⟨by decide, by decide⟩) (g := (mkF m 71 #[.val (.int u0), .val (.long u1), .second, .val (.long u2), .second, .val (.long u3), .second, .val (.long u4), .second, .val (.long u5), .second, .val (.long u6), .second, .val (.long u7), .second, .val (.long u8), .second] [(.double d0), (.int (0 : Int32)), (.ref b1), (.ref b1)])) rfl rfl (hb hby d1_71)
  have V3 : Arv Z h3 b1 k1 .double (6 : Int32) [(.double d0), (.double (0 : UInt64)), (.double (0 : UInt64)), (.double (0 : UInt64)), (.double (0 : UInt64)), (.double (0 : UInt64))] (.double (0 : UInt64)) := Arv.set Ar2 qa2 Sa2 Na2 Ha2 Ga2 rfl W3 0 rfl (Nat.le_of_ble_eq_true rfl)
  have N3 := Fr.snoc X3 N0 g_b1
  have Z3 : n0 ≤ h3.size := Nat.le_trans Z1 (Keep.of_wr W3).1
  have KK3 := KK1.wr W3 (Or.inr sz_b1)
  obtain ⟨cl4, Ar4, qa4, Sa4, Na4, Ha4, Ga4⟩ := id V3
  obtain ⟨T5, h5, X5, e5, W5, st5⟩ := stD X3 hx hZ e3 Ar4 (j := (1 : Int32)) (inb_of Sa4 ⟨by decide, by decide⟩) (g := (mkF m 76 #[.val (.int u0), .val (.long u1), .second, .val (.long u2), .second, .val (.long u3), .second, .val (.long u4), .second, .val (.long u5), .second, .val (.long u6), .second, .val (.long u7), .second, .val (.long u8), .second] [(.double d1), (.int (1 : Int32)), (.ref b1), (.ref b1)])) rfl rfl (hb hby d1_76)
  have V5 : Arv Z h5 b1 k1 .double (6 : Int32) [(.double d0), (.double d1), (.double (0 : UInt64)), (.double (0 : UInt64)), (.double (0 : UInt64)), (.double (0 : UInt64))] (.double (0 : UInt64)) := Arv.set Ar4 qa4 Sa4 Na4 Ha4 Ga4 rfl W5 1 rfl (Nat.le_of_ble_eq_true rfl)
  have N5 := Fr.snoc X5 N3 g_b1
  have Z5 : n0 ≤ h5.size := Nat.le_trans Z3 (Keep.of_wr W5).1
  have KK5 := KK3.wr W5 (Or.inr sz_b1)
  obtain ⟨cl6, Ar6, qa6, Sa6, Na6, Ha6, Ga6⟩ := id V5
  obtain ⟨T7, h7, X7, e7, W7, st7⟩ := stD X5 hx hZ e5 Ar6 (j := (2 : Int32)) (inb_of Sa6 ⟨by decide, by decide⟩) (g := (mkF m 82 #[.val (.int u0), .val (.long u1), .second, .val (.long u2), .second, .val (.long u3), .second, .val (.long u4), .second, .val (.long u5), .second, .val (.long u6), .second, .val (.long u7), .second, .val (.long u8), .second] [(.double d2), (.int (2 : Int32)), (.ref b1), (.ref b1)])) rfl rfl (hb hby d1_82)
  have V7 : Arv Z h7 b1 k1 .double (6 : Int32) [(.double d0), (.double d1), (.double d2), (.double (0 : UInt64)), (.double (0 : UInt64)), (.double (0 : UInt64))] (.double (0 : UInt64)) := Arv.set Ar6 qa6 Sa6 Na6 Ha6 Ga6 rfl W7 2 rfl (Nat.le_of_ble_eq_true rfl)
  have N7 := Fr.snoc X7 N5 g_b1
  have Z7 : n0 ≤ h7.size := Nat.le_trans Z5 (Keep.of_wr W7).1
  have KK7 := KK5.wr W7 (Or.inr sz_b1)
  obtain ⟨cl8, Ar8, qa8, Sa8, Na8, Ha8, Ga8⟩ := id V7
  obtain ⟨T9, h9, X9, e9, W9, st9⟩ := stD X7 hx hZ e7 Ar8 (j := (3 : Int32)) (inb_of Sa8 ⟨by decide, by decide⟩) (g := (mkF m 88 #[.val (.int u0), .val (.long u1), .second, .val (.long u2), .second, .val (.long u3), .second, .val (.long u4), .second, .val (.long u5), .second, .val (.long u6), .second, .val (.long u7), .second, .val (.long u8), .second] [(.double d3), (.int (3 : Int32)), (.ref b1), (.ref b1)])) rfl rfl (hb hby d1_88)
  have V9 : Arv Z h9 b1 k1 .double (6 : Int32) [(.double d0), (.double d1), (.double d2), (.double d3), (.double (0 : UInt64)), (.double (0 : UInt64))] (.double (0 : UInt64)) := Arv.set Ar8 qa8 Sa8 Na8 Ha8 Ga8 rfl W9 3 rfl (Nat.le_of_ble_eq_true rfl)
  have N9 := Fr.snoc X9 N7 g_b1
  have Z9 : n0 ≤ h9.size := Nat.le_trans Z7 (Keep.of_wr W9).1
  have KK9 := KK7.wr W9 (Or.inr sz_b1)
  obtain ⟨cl10, Ar10, qa10, Sa10, Na10, Ha10, Ga10⟩ := id V9
  obtain ⟨T11, h11, X11, e11, W11, st11⟩ := stD X9 hx hZ e9 Ar10 (j := (4 : Int32)) (inb_of Sa10 ⟨by decide, by decide⟩) (g := (mkF m 94 #[.val (.int u0), .val (.long u1), .second, .val (.long u2), .second, .val (.long u3), .second, .val (.long u4), .second, .val (.long u5), .second, .val (.long u6), .second, .val (.long u7), .second, .val (.long u8), .second] [(.double d4), (.int (4 : Int32)), (.ref b1), (.ref b1)])) rfl rfl (hb hby d1_94)
  have V11 : Arv Z h11 b1 k1 .double (6 : Int32) [(.double d0), (.double d1), (.double d2), (.double d3), (.double d4), (.double (0 : UInt64))] (.double (0 : UInt64)) := Arv.set Ar10 qa10 Sa10 Na10 Ha10 Ga10 rfl W11 4 rfl (Nat.le_of_ble_eq_true rfl)
  have N11 := Fr.snoc X11 N9 g_b1
  have Z11 : n0 ≤ h11.size := Nat.le_trans Z9 (Keep.of_wr W11).1
  have KK11 := KK9.wr W11 (Or.inr sz_b1)
  obtain ⟨cl12, Ar12, qa12, Sa12, Na12, Ha12, Ga12⟩ := id V11
  obtain ⟨T13, h13, X13, e13, W13, st13⟩ := stD X11 hx hZ e11 Ar12 (j := (5 : Int32)) (inb_of Sa12 ⟨by decide, by decide⟩) (g := (mkF m 100 #[.val (.int u0), .val (.long u1), .second, .val (.long u2), .second, .val (.long u3), .second, .val (.long u4), .second, .val (.long u5), .second, .val (.long u6), .second, .val (.long u7), .second, .val (.long u8), .second] [(.double d5), (.int (5 : Int32)), (.ref b1), (.ref b1)])) rfl rfl (hb hby d1_100)
  have V13 : Arv Z h13 b1 k1 .double (6 : Int32) [(.double d0), (.double d1), (.double d2), (.double d3), (.double d4), (.double d5)] (.double (0 : UInt64)) := Arv.set Ar12 qa12 Sa12 Na12 Ha12 Ga12 rfl W13 5 rfl (Nat.le_of_ble_eq_true rfl)
  have N13 := Fr.snoc X13 N11 g_b1
  have Z13 : n0 ≤ h13.size := Nat.le_trans Z11 (Keep.of_wr W13).1
  have KK13 := KK11.wr W13 (Or.inr sz_b1)
  obtain ⟨fs, hr, hrun, hended, hW, hsame⟩ := X13.leave (v := some (.ref b1)) (fun h => by rw [Bd.returns] at h; cases h)
  refine ⟨_, _, pre0 _ ?_, hrun, hended, _, _, rfl, ?_, ⟨_, rfl⟩, hW, hsame.mono (by decide) (by decide)⟩
  · show Steps p.tables e below (s₁.setTop (mkF m 0 #[.val (.int u0), .val (.long u1), .second, .val (.long u2), .second, .val (.long u3), .second, .val (.long u4), .second, .val (.long u5), .second, .val (.long u6), .second, .val (.long u7), .second, .val (.long u8), .second] [])) _
    refine XS.iloadN X0.here hx rfl (hb hby d1_0) rfl ?_
    refine XS.ifYes X0.here hx rfl (pc0 := 1) (pc' := 8) rfl (hb hby d1_1) rfl ((if0 _ _).trans (feq (by rw [hn]; decide)).2) (by decide) (by decide) ?_
    refine XS.iloadN X0.here hx rfl (hb hby d1_8) rfl ?_
    refine XS.iconst X0.here hx rfl (hb hby d1_9) ?_
    refine XS.icmpYes X0.here hx rfl (pc0 := 10) (pc' := 27) rfl (hb hby d1_10) rfl (feq (by rw [hn]; decide)).2 (by decide) (by decide) ?_
    refine XS.iloadN X0.here hx rfl (hb hby d1_27) rfl ?_
    refine XS.iconst X0.here hx rfl (hb hby d1_28) ?_
    refine XS.icmpYes X0.here hx rfl (pc0 := 29) (pc' := 58) rfl (hb hby d1_29) rfl (feq (by rw [hn]; decide)).2 (by decide) (by decide) ?_
    refine XS.iloadN X0.here hx rfl (hb hby d1_58) rfl ?_
    refine XS.iconst X0.here hx rfl (hb hby d1_59) ?_
    refine XS.icmpNo X0.here hx rfl (hb hby d1_60) rfl (teq hn).2 ?_
    refine XS.bipush X0.here hx rfl (hb hby d1_63) ?_
    refine st1 _ ?_
    show Steps p.tables e below (T1.setTop (mkF m 67 #[.val (.int u0), .val (.long u1), .second, .val (.long u2), .second, .val (.long u3), .second, .val (.long u4), .second, .val (.long u5), .second, .val (.long u6), .second, .val (.long u7), .second, .val (.long u8), .second] [(.ref b1)])) _
    refine XS.dup X1.here hx rfl (hb hby d1_67) rfl rfl ?_
    refine XS.iconst X1.here hx rfl (hb hby d1_68) ?_
    refine XS.lloadN X1.here hx rfl (hb hby d1_69) rfl ?_
    refine XS.l2dS X1.here hx rfl (hb hby d1_70) rfl (v := d0) e_d0.symm ?_
    refine st3 _ ?_
    show Steps p.tables e below (T3.setTop (mkF m 72 #[.val (.int u0), .val (.long u1), .second, .val (.long u2), .second, .val (.long u3), .second, .val (.long u4), .second, .val (.long u5), .second, .val (.long u6), .second, .val (.long u7), .second, .val (.long u8), .second] [(.ref b1)])) _
    refine XS.dup X3.here hx rfl (hb hby d1_72) rfl rfl ?_
    refine XS.iconst X3.here hx rfl (hb hby d1_73) ?_
    refine XS.lloadN X3.here hx rfl (hb hby d1_74) rfl ?_
    refine XS.l2dS X3.here hx rfl (hb hby d1_75) rfl (v := d1) e_d1.symm ?_
    refine st5 _ ?_
    show Steps p.tables e below (T5.setTop (mkF m 77 #[.val (.int u0), .val (.long u1), .second, .val (.long u2), .second, .val (.long u3), .second, .val (.long u4), .second, .val (.long u5), .second, .val (.long u6), .second, .val (.long u7), .second, .val (.long u8), .second] [(.ref b1)])) _
    refine XS.dup X5.here hx rfl (hb hby d1_77) rfl rfl ?_
    refine XS.iconst X5.here hx rfl (hb hby d1_78) ?_
    refine XS.lload X5.here hx rfl (hb hby d1_79) rfl ?_
    refine XS.l2dS X5.here hx rfl (hb hby d1_81) rfl (v := d2) e_d2.symm ?_
    refine st7 _ ?_
    show Steps p.tables e below (T7.setTop (mkF m 83 #[.val (.int u0), .val (.long u1), .second, .val (.long u2), .second, .val (.long u3), .second, .val (.long u4), .second, .val (.long u5), .second, .val (.long u6), .second, .val (.long u7), .second, .val (.long u8), .second] [(.ref b1)])) _
    refine XS.dup X7.here hx rfl (hb hby d1_83) rfl rfl ?_
    refine XS.iconst X7.here hx rfl (hb hby d1_84) ?_
    refine XS.lload X7.here hx rfl (hb hby d1_85) rfl ?_
    refine XS.l2dS X7.here hx rfl (hb hby d1_87) rfl (v := d3) e_d3.symm ?_
    refine st9 _ ?_
    show Steps p.tables e below (T9.setTop (mkF m 89 #[.val (.int u0), .val (.long u1), .second, .val (.long u2), .second, .val (.long u3), .second, .val (.long u4), .second, .val (.long u5), .second, .val (.long u6), .second, .val (.long u7), .second, .val (.long u8), .second] [(.ref b1)])) _
    refine XS.dup X9.here hx rfl (hb hby d1_89) rfl rfl ?_
    refine XS.iconst X9.here hx rfl (hb hby d1_90) ?_
    refine XS.lload X9.here hx rfl (hb hby d1_91) rfl ?_
    refine XS.l2dS X9.here hx rfl (hb hby d1_93) rfl (v := d4) e_d4.symm ?_
    refine st11 _ ?_
    show Steps p.tables e below (T11.setTop (mkF m 95 #[.val (.int u0), .val (.long u1), .second, .val (.long u2), .second, .val (.long u3), .second, .val (.long u4), .second, .val (.long u5), .second, .val (.long u6), .second, .val (.long u7), .second, .val (.long u8), .second] [(.ref b1)])) _
    refine XS.dup X11.here hx rfl (hb hby d1_95) rfl rfl ?_
    refine XS.iconst X11.here hx rfl (hb hby d1_96) ?_
    refine XS.lload X11.here hx rfl (hb hby d1_97) rfl ?_
    refine XS.l2dS X11.here hx rfl (hb hby d1_99) rfl (v := d5) e_d5.symm ?_
    refine st13 _ ?_
    show Steps p.tables e below (T13.setTop (mkF m 101 #[.val (.int u0), .val (.long u1), .second, .val (.long u2), .second, .val (.long u3), .second, .val (.long u4), .second, .val (.long u5), .second, .val (.long u6), .second, .val (.long u7), .second, .val (.long u8), .second] [(.ref b1)])) _
    jvm_step X13.here [X13.here.top, hx, (hb hby d1_101), X13.method', Bd.returns, Value.isRef, FieldType.isReference]
    first | (intro acts; rw [hr _ acts rfl rfl rfl]) | rw [hr _ _ rfl rfl rfl]
    exact Steps.refl _
  · show QB3 Z u0 u1 u2 u3 u4 u5 u6 u7 u8 d0 d1 d2 d3 d4 d5 h0 n0 _ T13.heap _
    rw [e13]
    exact ⟨(by rw [g1]), N13, KK13, _, (by rw [← g1]; exact V13)⟩
theorem d1_102 : decode method_3_code 102 = .ok (.bipush 8, 2) := by decide +kernel
theorem d1_104 : decode method_3_code 104 = .ok (.newarray .double, 2) := by decide +kernel
theorem d1_106 : decode method_3_code 106 = .ok (.dup, 1) := by decide +kernel
theorem d1_107 : decode method_3_code 107 = .ok (.iconst 0, 1) := by decide +kernel
theorem d1_108 : decode method_3_code 108 = .ok (.lload_n 1, 1) := by decide +kernel
theorem d1_109 : decode method_3_code 109 = .ok (.l2d, 1) := by decide +kernel
theorem d1_110 : decode method_3_code 110 = .ok (.dastore, 1) := by decide +kernel
theorem d1_111 : decode method_3_code 111 = .ok (.dup, 1) := by decide +kernel
theorem d1_112 : decode method_3_code 112 = .ok (.iconst 1, 1) := by decide +kernel
theorem d1_113 : decode method_3_code 113 = .ok (.lload_n 3, 1) := by decide +kernel
theorem d1_114 : decode method_3_code 114 = .ok (.l2d, 1) := by decide +kernel
theorem d1_115 : decode method_3_code 115 = .ok (.dastore, 1) := by decide +kernel
theorem d1_116 : decode method_3_code 116 = .ok (.dup, 1) := by decide +kernel
theorem d1_117 : decode method_3_code 117 = .ok (.iconst 2, 1) := by decide +kernel
theorem d1_118 : decode method_3_code 118 = .ok (.lload 5, 2) := by decide +kernel
theorem d1_120 : decode method_3_code 120 = .ok (.l2d, 1) := by decide +kernel
theorem d1_121 : decode method_3_code 121 = .ok (.dastore, 1) := by decide +kernel
theorem d1_122 : decode method_3_code 122 = .ok (.dup, 1) := by decide +kernel
theorem d1_123 : decode method_3_code 123 = .ok (.iconst 3, 1) := by decide +kernel
theorem d1_124 : decode method_3_code 124 = .ok (.lload 7, 2) := by decide +kernel
theorem d1_126 : decode method_3_code 126 = .ok (.l2d, 1) := by decide +kernel
theorem d1_127 : decode method_3_code 127 = .ok (.dastore, 1) := by decide +kernel
theorem d1_128 : decode method_3_code 128 = .ok (.dup, 1) := by decide +kernel
theorem d1_129 : decode method_3_code 129 = .ok (.iconst 4, 1) := by decide +kernel
theorem d1_130 : decode method_3_code 130 = .ok (.lload 9, 2) := by decide +kernel
theorem d1_132 : decode method_3_code 132 = .ok (.l2d, 1) := by decide +kernel
theorem d1_133 : decode method_3_code 133 = .ok (.dastore, 1) := by decide +kernel
theorem d1_134 : decode method_3_code 134 = .ok (.dup, 1) := by decide +kernel
theorem d1_135 : decode method_3_code 135 = .ok (.iconst 5, 1) := by decide +kernel
theorem d1_136 : decode method_3_code 136 = .ok (.lload 11, 2) := by decide +kernel
theorem d1_138 : decode method_3_code 138 = .ok (.l2d, 1) := by decide +kernel
theorem d1_139 : decode method_3_code 139 = .ok (.dastore, 1) := by decide +kernel
theorem d1_140 : decode method_3_code 140 = .ok (.dup, 1) := by decide +kernel
theorem d1_141 : decode method_3_code 141 = .ok (.bipush 6, 2) := by decide +kernel
theorem d1_143 : decode method_3_code 143 = .ok (.lload 13, 2) := by decide +kernel
theorem d1_145 : decode method_3_code 145 = .ok (.l2d, 1) := by decide +kernel
theorem d1_146 : decode method_3_code 146 = .ok (.dastore, 1) := by decide +kernel
theorem d1_147 : decode method_3_code 147 = .ok (.dup, 1) := by decide +kernel
theorem d1_148 : decode method_3_code 148 = .ok (.bipush 7, 2) := by decide +kernel
theorem d1_150 : decode method_3_code 150 = .ok (.lload 15, 2) := by decide +kernel
theorem d1_152 : decode method_3_code 152 = .ok (.l2d, 1) := by decide +kernel
theorem d1_153 : decode method_3_code 153 = .ok (.dastore, 1) := by decide +kernel
theorem d1_154 : decode method_3_code 154 = .ok (.areturn, 1) := by decide +kernel
theorem ef_B4 (m : MethodId) (u0 : Int32) (u1 : Int64) (u2 : Int64) (u3 : Int64) (u4 : Int64) (u5 : Int64) (u6 : Int64) (u7 : Int64) (u8 : Int64) : entryFrame m #[(.int u0), (.long u1), (.long u2), (.long u3), (.long u4), (.long u5), (.long u6), (.long u7), (.long u8)] 17 = mkF m 0 #[.val (.int u0), .val (.long u1), .second, .val (.long u2), .second, .val (.long u3), .second, .val (.long u4), .second, .val (.long u5), .second, .val (.long u6), .second, .val (.long u7), .second, .val (.long u8), .second] [] := by first | (simp [entryFrame, mkF, argsToLocals, Value.category]; done) | rfl
def QB4 (Z : State) (u0 : Int32) (u1 : Int64) (u2 : Int64) (u3 : Int64) (u4 : Int64) (u5 : Int64) (u6 : Int64) (u7 : Int64) (u8 : Int64) (d0 : UInt64) (d1 : UInt64) (d2 : UInt64) (d3 : UInt64) (d4 : UInt64) (d5 : UInt64) (d6 : UInt64) (d7 : UInt64) (h0 : Heap) (n0 : Nat) (v : Option Value) (h : Heap) (L : List Loc) : Prop := v = some (.ref h0.size) ∧ Fr n0 L ∧ Keep h0 h [] ∧ ∃ kk : ClassId, Arv Z h h0.size kk .double (8 : Int32) [(.double d0), (.double d1), (.double d2), (.double d3), (.double d4), (.double d5), (.double d6), (.double d7)] (.double (0 : UInt64))
set_option maxRecDepth 65536 in
set_option maxHeartbeats 40000000 in
theorem rmB4 (l : Launch) (Z : State) (a0 : Array Value) (hw : ∀ d ∈ tables_1, d.before a0 Z = true) (ws : List Jvm.Cond) (u0 : Int32) (u1 : Int64) (u2 : Int64) (u3 : Int64) (u4 : Int64) (u5 : Int64) (u6 : Int64) (u7 : Int64) (u8 : Int64) (d0 : UInt64) (d1 : UInt64) (d2 : UInt64) (d3 : UInt64) (d4 : UInt64) (d5 : UInt64) (d6 : UInt64) (d7 : UInt64) (h0 : Heap) (n0 : Nat) (Z0 : n0 ≤ h0.size) (hn : u0 = (4 : Int32)) (e_d0 : d0 = FP.l2d u1) (e_d1 : d1 = FP.l2d u2) (e_d2 : d2 = FP.l2d u3) (e_d3 : d3 = FP.l2d u4) (e_d4 : d4 = FP.l2d u5) (e_d5 : d5 = FP.l2d u6) (e_d6 : d6 = FP.l2d u7) (e_d7 : d7 = FP.l2d u8) :
    MetFree l (⟨"com/example/decorum/decorum/graphics/RasterizerClockwisePinLaw", "build", "(IJJJJJJJJ)[D"⟩ : MethodName) (head1 (Jvm.Cond.code (⟨"com/example/decorum/decorum/graphics/RasterizerClockwisePinLaw", "build", "(IJJJJJJJJ)[D"⟩ : MethodName) method_3_code 17 (some (.array .double)) :: ws) ({ frames := 0, cells := 1, slots := 8, locals := 0 } : Room)) (fun a U => a = #[(.int u0), (.long u1), (.long u2), (.long u3), (.long u4), (.long u5), (.long u6), (.long u7), (.long u8)] ∧ Z.Warmed39 U.vm ∧ U.heap = h0) (fun _ _ _ _ _ => True) (fun _ U o U' => ∃ v L, o = .returned v ∧ QB4 Z u0 u1 u2 u3 u4 u5 u6 u7 u8 d0 d1 d2 d3 d4 d5 d6 d7 h0 n0 v U'.heap L ∧ FrameEnd U o U' L ({ frames := 0, cells := 1, slots := 8, locals := 0 } : Room).cells ({ frames := 0, cells := 1, slots := 8, locals := 0 } : Room).slots) := by
  refine MetFree.of_bodySF (plainFor_of_name pn_com_example_decorum_decorum_graphics_RasterizerClockwisePinLaw) hisR ?_
  intro p e s m args below meth c s₁ Bd hml0 hP hK
  obtain ⟨rfl, hZ, hh⟩ := hP
  have hx := Bd.exec
  have hby := Bd.bytes
  have hml : c.maxLocals = 17 := hml0
  have hown : s.vm.findClass "com/example/decorum/decorum/graphics/RasterizerClockwisePinLaw" = some m.cls := findClass_of_methodNamed Bd.named
  have hnm := (name_of_methodNamed Bd.named Bd.method).1
  have X0 : Stand p l e ({ frames := 0, cells := 1, slots := 8, locals := 0 } : Room) s m #[(.int u0), (.long u1), (.long u2), (.long u3), (.long u4), (.long u5), (.long u6), (.long u7), (.long u8)] below meth c s₁ [] 0 0 := Stand.of_body Bd
  have e0 : s₁.heap = h0 := by rw [← hh, Bd.state]; rfl
  have N0 := Fr.nil n0
  have pre0 : ∀ t, Steps p.tables e below (s₁.setTop (mkF m 0 #[.val (.int u0), .val (.long u1), .second, .val (.long u2), .second, .val (.long u3), .second, .val (.long u4), .second, .val (.long u5), .second, .val (.long u6), .second, .val (.long u7), .second, .val (.long u8), .second] [])) t → Steps p.tables e below (s₁.setTop (entryFrame m #[(.int u0), (.long u1), (.long u2), (.long u3), (.long u4), (.long u5), (.long u6), (.long u7), (.long u8)] 17)) t := fun t k => castTop (ef_B4 m u0 u1 u2 u3 u4 u5 u6 u7 u8) k
  obtain ⟨T1, h1, k1, X1, e1, E1, A1, st1⟩ := newP X0 hx hZ (hw _ (List.mem_of_getElem? (i := 4) rfl)) e0 (g := (mkF m 104 #[.val (.int u0), .val (.long u1), .second, .val (.long u2), .second, .val (.long u3), .second, .val (.long u4), .second, .val (.long u5), .second, .val (.long u6), .second, .val (.long u7), .second, .val (.long u8), .second] [(.int (8 : Int32))])) rfl (hb hby d1_104) rfl (by decide) (cap := 8) (by decide) (by decide) (by decide) (by decide)
  obtain ⟨b1, g1⟩ : ∃ z, z = h0.size := ⟨_, rfl⟩
  rw [← g1] at A1 st1
  have g_b1 : n0 ≤ b1 := Nat.le_trans Z0 (Nat.le_of_eq g1.symm)
  have sz_b1 : h0.size ≤ b1 := Nat.le_trans (Keep.refl h0 []).1 (Nat.le_of_eq g1.symm)
  have V1 : Arv Z h1 b1 k1 .double (8 : Int32) [(.double (0 : UInt64)), (.double (0 : UInt64)), (.double (0 : UInt64)), (.double (0 : UInt64)), (.double (0 : UInt64)), (.double (0 : UInt64)), (.double (0 : UInt64)), (.double (0 : UInt64))] (.double (0 : UInt64)) := (Arv.new A1 (by decide)).pad (pad_rep [] (.double (0 : UInt64)) 8)
  have Z1 : n0 ≤ h1.size := Nat.le_trans Z0 E1.1
  have KK1 := (Keep.refl h0 []).ext E1
  obtain ⟨cl2, Ar2, qa2, Sa2, Na2, Ha2, Ga2⟩ := id V1
  obtain ⟨T3, h3, X3, e3, W3, st3⟩ := stD X1 hx hZ e1 Ar2 (j := (0 : Int32)) (inb_of Sa2 ⟨by decide, by decide⟩) (g := (mkF m 110 #[.val (.int u0), .val (.long u1), .second, .val (.long u2), .second, .val (.long u3), .second, .val (.long u4), .second, .val (.long u5), .second, .val (.long u6), .second, .val (.long u7), .second, .val (.long u8), .second] [(.double d0), (.int (0 : Int32)), (.ref b1), (.ref b1)])) rfl rfl (hb hby d1_110)
  have V3 : Arv Z h3 b1 k1 .double (8 : Int32) [(.double d0), (.double (0 : UInt64)), (.double (0 : UInt64)), (.double (0 : UInt64)), (.double (0 : UInt64)), (.double (0 : UInt64)), (.double (0 : UInt64)), (.double (0 : UInt64))] (.double (0 : UInt64)) := Arv.set Ar2 qa2 Sa2 Na2 Ha2 Ga2 rfl W3 0 rfl (Nat.le_of_ble_eq_true rfl)
  have N3 := Fr.snoc X3 N0 g_b1
  have Z3 : n0 ≤ h3.size := Nat.le_trans Z1 (Keep.of_wr W3).1
  have KK3 := KK1.wr W3 (Or.inr sz_b1)
  obtain ⟨cl4, Ar4, qa4, Sa4, Na4, Ha4, Ga4⟩ := id V3
  obtain ⟨T5, h5, X5, e5, W5, st5⟩ := stD X3 hx hZ e3 Ar4 (j := (1 : Int32)) (inb_of Sa4 ⟨by decide, by decide⟩) (g := (mkF m 115 #[.val (.int u0), .val (.long u1), .second, .val (.long u2), .second, .val (.long u3), .second, .val (.long u4), .second, .val (.long u5), .second, .val (.long u6), .second, .val (.long u7), .second, .val (.long u8), .second] [(.double d1), (.int (1 : Int32)), (.ref b1), (.ref b1)])) rfl rfl (hb hby d1_115)
  have V5 : Arv Z h5 b1 k1 .double (8 : Int32) [(.double d0), (.double d1), (.double (0 : UInt64)), (.double (0 : UInt64)), (.double (0 : UInt64)), (.double (0 : UInt64)), (.double (0 : UInt64)), (.double (0 : UInt64))] (.double (0 : UInt64)) := Arv.set Ar4 qa4 Sa4 Na4 Ha4 Ga4 rfl W5 1 rfl (Nat.le_of_ble_eq_true rfl)
  have N5 := Fr.snoc X5 N3 g_b1
  have Z5 : n0 ≤ h5.size := Nat.le_trans Z3 (Keep.of_wr W5).1
  have KK5 := KK3.wr W5 (Or.inr sz_b1)
  obtain ⟨cl6, Ar6, qa6, Sa6, Na6, Ha6, Ga6⟩ := id V5
  obtain ⟨T7, h7, X7, e7, W7, st7⟩ := stD X5 hx hZ e5 Ar6 (j := (2 : Int32)) (inb_of Sa6 ⟨by decide, by decide⟩) (g := (mkF m 121 #[.val (.int u0), .val (.long u1), .second, .val (.long u2), .second, .val (.long u3), .second, .val (.long u4), .second, .val (.long u5), .second, .val (.long u6), .second, .val (.long u7), .second, .val (.long u8), .second] [(.double d2), (.int (2 : Int32)), (.ref b1), (.ref b1)])) rfl rfl (hb hby d1_121)
  have V7 : Arv Z h7 b1 k1 .double (8 : Int32) [(.double d0), (.double d1), (.double d2), (.double (0 : UInt64)), (.double (0 : UInt64)), (.double (0 : UInt64)), (.double (0 : UInt64)), (.double (0 : UInt64))] (.double (0 : UInt64)) := Arv.set Ar6 qa6 Sa6 Na6 Ha6 Ga6 rfl W7 2 rfl (Nat.le_of_ble_eq_true rfl)
  have N7 := Fr.snoc X7 N5 g_b1
  have Z7 : n0 ≤ h7.size := Nat.le_trans Z5 (Keep.of_wr W7).1
  have KK7 := KK5.wr W7 (Or.inr sz_b1)
  obtain ⟨cl8, Ar8, qa8, Sa8, Na8, Ha8, Ga8⟩ := id V7
  obtain ⟨T9, h9, X9, e9, W9, st9⟩ := stD X7 hx hZ e7 Ar8 (j := (3 : Int32)) (inb_of Sa8 ⟨by decide, by decide⟩) (g := (mkF m 127 #[.val (.int u0), .val (.long u1), .second, .val (.long u2), .second, .val (.long u3), .second, .val (.long u4), .second, .val (.long u5), .second, .val (.long u6), .second, .val (.long u7), .second, .val (.long u8), .second] [(.double d3), (.int (3 : Int32)), (.ref b1), (.ref b1)])) rfl rfl (hb hby d1_127)
  have V9 : Arv Z h9 b1 k1 .double (8 : Int32) [(.double d0), (.double d1), (.double d2), (.double d3), (.double (0 : UInt64)), (.double (0 : UInt64)), (.double (0 : UInt64)), (.double (0 : UInt64))] (.double (0 : UInt64)) := Arv.set Ar8 qa8 Sa8 Na8 Ha8 Ga8 rfl W9 3 rfl (Nat.le_of_ble_eq_true rfl)
  have N9 := Fr.snoc X9 N7 g_b1
  have Z9 : n0 ≤ h9.size := Nat.le_trans Z7 (Keep.of_wr W9).1
  have KK9 := KK7.wr W9 (Or.inr sz_b1)
  obtain ⟨cl10, Ar10, qa10, Sa10, Na10, Ha10, Ga10⟩ := id V9
  obtain ⟨T11, h11, X11, e11, W11, st11⟩ := stD X9 hx hZ e9 Ar10 (j := (4 : Int32)) (inb_of Sa10 ⟨by decide, by decide⟩) (g := (mkF m 133 #[.val (.int u0), .val (.long u1), .second, .val (.long u2), .second, .val (.long u3), .second, .val (.long u4), .second, .val (.long u5), .second, .val (.long u6), .second, .val (.long u7), .second, .val (.long u8), .second] [(.double d4), (.int (4 : Int32)), (.ref b1), (.ref b1)])) rfl rfl (hb hby d1_133)
  have V11 : Arv Z h11 b1 k1 .double (8 : Int32) [(.double d0), (.double d1), (.double d2), (.double d3), (.double d4), (.double (0 : UInt64)), (.double (0 : UInt64)), (.double (0 : UInt64))] (.double (0 : UInt64)) := Arv.set Ar10 qa10 Sa10 Na10 Ha10 Ga10 rfl W11 4 rfl (Nat.le_of_ble_eq_true rfl)
  have N11 := Fr.snoc X11 N9 g_b1
  have Z11 : n0 ≤ h11.size := Nat.le_trans Z9 (Keep.of_wr W11).1
  have KK11 := KK9.wr W11 (Or.inr sz_b1)
  obtain ⟨cl12, Ar12, qa12, Sa12, Na12, Ha12, Ga12⟩ := id V11
  obtain ⟨T13, h13, X13, e13, W13, st13⟩ := stD X11 hx hZ e11 Ar12 (j := (5 : Int32)) (inb_of Sa12 ⟨by decide, by decide⟩) (g := (mkF m 139 #[.val (.int u0), .val (.long u1), .second, .val (.long u2), .second, .val (.long u3), .second, .val (.long u4), .second, .val (.long u5), .second, .val (.long u6), .second, .val (.long u7), .second, .val (.long u8), .second] [(.double d5), (.int (5 : Int32)), (.ref b1), (.ref b1)])) rfl rfl (hb hby d1_139)
  have V13 : Arv Z h13 b1 k1 .double (8 : Int32) [(.double d0), (.double d1), (.double d2), (.double d3), (.double d4), (.double d5), (.double (0 : UInt64)), (.double (0 : UInt64))] (.double (0 : UInt64)) := Arv.set Ar12 qa12 Sa12 Na12 Ha12 Ga12 rfl W13 5 rfl (Nat.le_of_ble_eq_true rfl)
  have N13 := Fr.snoc X13 N11 g_b1
  have Z13 : n0 ≤ h13.size := Nat.le_trans Z11 (Keep.of_wr W13).1
  have KK13 := KK11.wr W13 (Or.inr sz_b1)
  obtain ⟨cl14, Ar14, qa14, Sa14, Na14, Ha14, Ga14⟩ := id V13
  obtain ⟨T15, h15, X15, e15, W15, st15⟩ := stD X13 hx hZ e13 Ar14 (j := (6 : Int32)) (inb_of Sa14 ⟨by decide, by decide⟩) (g := (mkF m 146 #[.val (.int u0), .val (.long u1), .second, .val (.long u2), .second, .val (.long u3), .second, .val (.long u4), .second, .val (.long u5), .second, .val (.long u6), .second, .val (.long u7), .second, .val (.long u8), .second] [(.double d6), (.int (6 : Int32)), (.ref b1), (.ref b1)])) rfl rfl (hb hby d1_146)
  have V15 : Arv Z h15 b1 k1 .double (8 : Int32) [(.double d0), (.double d1), (.double d2), (.double d3), (.double d4), (.double d5), (.double d6), (.double (0 : UInt64))] (.double (0 : UInt64)) := Arv.set Ar14 qa14 Sa14 Na14 Ha14 Ga14 rfl W15 6 rfl (Nat.le_of_ble_eq_true rfl)
  have N15 := Fr.snoc X15 N13 g_b1
  have Z15 : n0 ≤ h15.size := Nat.le_trans Z13 (Keep.of_wr W15).1
  have KK15 := KK13.wr W15 (Or.inr sz_b1)
  obtain ⟨cl16, Ar16, qa16, Sa16, Na16, Ha16, Ga16⟩ := id V15
  obtain ⟨T17, h17, X17, e17, W17, st17⟩ := stD X15 hx hZ e15 Ar16 (j := (7 : Int32)) (inb_of Sa16 ⟨by decide, by decide⟩) (g := (mkF m 153 #[.val (.int u0), .val (.long u1), .second, .val (.long u2), .second, .val (.long u3), .second, .val (.long u4), .second, .val (.long u5), .second, .val (.long u6), .second, .val (.long u7), .second, .val (.long u8), .second] [(.double d7), (.int (7 : Int32)), (.ref b1), (.ref b1)])) rfl rfl (hb hby d1_153)
  have V17 : Arv Z h17 b1 k1 .double (8 : Int32) [(.double d0), (.double d1), (.double d2), (.double d3), (.double d4), (.double d5), (.double d6), (.double d7)] (.double (0 : UInt64)) := Arv.set Ar16 qa16 Sa16 Na16 Ha16 Ga16 rfl W17 7 rfl (Nat.le_of_ble_eq_true rfl)
  have N17 := Fr.snoc X17 N15 g_b1
  have Z17 : n0 ≤ h17.size := Nat.le_trans Z15 (Keep.of_wr W17).1
  have KK17 := KK15.wr W17 (Or.inr sz_b1)
  obtain ⟨fs, hr, hrun, hended, hW, hsame⟩ := X17.leave (v := some (.ref b1)) (fun h => by rw [Bd.returns] at h; cases h)
  refine ⟨_, _, pre0 _ ?_, hrun, hended, _, _, rfl, ?_, ⟨_, rfl⟩, hW, hsame.mono (by decide) (by decide)⟩
  · show Steps p.tables e below (s₁.setTop (mkF m 0 #[.val (.int u0), .val (.long u1), .second, .val (.long u2), .second, .val (.long u3), .second, .val (.long u4), .second, .val (.long u5), .second, .val (.long u6), .second, .val (.long u7), .second, .val (.long u8), .second] [])) _
    refine XS.iloadN X0.here hx rfl (hb hby d1_0) rfl ?_
    refine XS.ifYes X0.here hx rfl (pc0 := 1) (pc' := 8) rfl (hb hby d1_1) rfl ((if0 _ _).trans (feq (by rw [hn]; decide)).2) (by decide) (by decide) ?_
    refine XS.iloadN X0.here hx rfl (hb hby d1_8) rfl ?_
    refine XS.iconst X0.here hx rfl (hb hby d1_9) ?_
    refine XS.icmpYes X0.here hx rfl (pc0 := 10) (pc' := 27) rfl (hb hby d1_10) rfl (feq (by rw [hn]; decide)).2 (by decide) (by decide) ?_
    refine XS.iloadN X0.here hx rfl (hb hby d1_27) rfl ?_
    refine XS.iconst X0.here hx rfl (hb hby d1_28) ?_
    refine XS.icmpYes X0.here hx rfl (pc0 := 29) (pc' := 58) rfl (hb hby d1_29) rfl (feq (by rw [hn]; decide)).2 (by decide) (by decide) ?_
    refine XS.iloadN X0.here hx rfl (hb hby d1_58) rfl ?_
    refine XS.iconst X0.here hx rfl (hb hby d1_59) ?_
    refine XS.icmpYes X0.here hx rfl (pc0 := 60) (pc' := 102) rfl (hb hby d1_60) rfl (feq (by rw [hn]; decide)).2 (by decide) (by decide) ?_
    refine XS.bipush X0.here hx rfl (hb hby d1_102) ?_
    refine st1 _ ?_
    show Steps p.tables e below (T1.setTop (mkF m 106 #[.val (.int u0), .val (.long u1), .second, .val (.long u2), .second, .val (.long u3), .second, .val (.long u4), .second, .val (.long u5), .second, .val (.long u6), .second, .val (.long u7), .second, .val (.long u8), .second] [(.ref b1)])) _
    refine XS.dup X1.here hx rfl (hb hby d1_106) rfl rfl ?_
    refine XS.iconst X1.here hx rfl (hb hby d1_107) ?_
    refine XS.lloadN X1.here hx rfl (hb hby d1_108) rfl ?_
    refine XS.l2dS X1.here hx rfl (hb hby d1_109) rfl (v := d0) e_d0.symm ?_
    refine st3 _ ?_
    show Steps p.tables e below (T3.setTop (mkF m 111 #[.val (.int u0), .val (.long u1), .second, .val (.long u2), .second, .val (.long u3), .second, .val (.long u4), .second, .val (.long u5), .second, .val (.long u6), .second, .val (.long u7), .second, .val (.long u8), .second] [(.ref b1)])) _
    refine XS.dup X3.here hx rfl (hb hby d1_111) rfl rfl ?_
    refine XS.iconst X3.here hx rfl (hb hby d1_112) ?_
    refine XS.lloadN X3.here hx rfl (hb hby d1_113) rfl ?_
    refine XS.l2dS X3.here hx rfl (hb hby d1_114) rfl (v := d1) e_d1.symm ?_
    refine st5 _ ?_
    show Steps p.tables e below (T5.setTop (mkF m 116 #[.val (.int u0), .val (.long u1), .second, .val (.long u2), .second, .val (.long u3), .second, .val (.long u4), .second, .val (.long u5), .second, .val (.long u6), .second, .val (.long u7), .second, .val (.long u8), .second] [(.ref b1)])) _
    refine XS.dup X5.here hx rfl (hb hby d1_116) rfl rfl ?_
    refine XS.iconst X5.here hx rfl (hb hby d1_117) ?_
    refine XS.lload X5.here hx rfl (hb hby d1_118) rfl ?_
    refine XS.l2dS X5.here hx rfl (hb hby d1_120) rfl (v := d2) e_d2.symm ?_
    refine st7 _ ?_
    show Steps p.tables e below (T7.setTop (mkF m 122 #[.val (.int u0), .val (.long u1), .second, .val (.long u2), .second, .val (.long u3), .second, .val (.long u4), .second, .val (.long u5), .second, .val (.long u6), .second, .val (.long u7), .second, .val (.long u8), .second] [(.ref b1)])) _
    refine XS.dup X7.here hx rfl (hb hby d1_122) rfl rfl ?_
    refine XS.iconst X7.here hx rfl (hb hby d1_123) ?_
    refine XS.lload X7.here hx rfl (hb hby d1_124) rfl ?_
    refine XS.l2dS X7.here hx rfl (hb hby d1_126) rfl (v := d3) e_d3.symm ?_
    refine st9 _ ?_
    show Steps p.tables e below (T9.setTop (mkF m 128 #[.val (.int u0), .val (.long u1), .second, .val (.long u2), .second, .val (.long u3), .second, .val (.long u4), .second, .val (.long u5), .second, .val (.long u6), .second, .val (.long u7), .second, .val (.long u8), .second] [(.ref b1)])) _
    refine XS.dup X9.here hx rfl (hb hby d1_128) rfl rfl ?_
    refine XS.iconst X9.here hx rfl (hb hby d1_129) ?_
    refine XS.lload X9.here hx rfl (hb hby d1_130) rfl ?_
    refine XS.l2dS X9.here hx rfl (hb hby d1_132) rfl (v := d4) e_d4.symm ?_
    refine st11 _ ?_
    show Steps p.tables e below (T11.setTop (mkF m 134 #[.val (.int u0), .val (.long u1), .second, .val (.long u2), .second, .val (.long u3), .second, .val (.long u4), .second, .val (.long u5), .second, .val (.long u6), .second, .val (.long u7), .second, .val (.long u8), .second] [(.ref b1)])) _
    refine XS.dup X11.here hx rfl (hb hby d1_134) rfl rfl ?_
    refine XS.iconst X11.here hx rfl (hb hby d1_135) ?_
    refine XS.lload X11.here hx rfl (hb hby d1_136) rfl ?_
    refine XS.l2dS X11.here hx rfl (hb hby d1_138) rfl (v := d5) e_d5.symm ?_
    refine st13 _ ?_
    show Steps p.tables e below (T13.setTop (mkF m 140 #[.val (.int u0), .val (.long u1), .second, .val (.long u2), .second, .val (.long u3), .second, .val (.long u4), .second, .val (.long u5), .second, .val (.long u6), .second, .val (.long u7), .second, .val (.long u8), .second] [(.ref b1)])) _
    refine XS.dup X13.here hx rfl (hb hby d1_140) rfl rfl ?_
    refine XS.bipush X13.here hx rfl (hb hby d1_141) ?_
    refine XS.lload X13.here hx rfl (hb hby d1_143) rfl ?_
    refine XS.l2dS X13.here hx rfl (hb hby d1_145) rfl (v := d6) e_d6.symm ?_
    refine st15 _ ?_
    show Steps p.tables e below (T15.setTop (mkF m 147 #[.val (.int u0), .val (.long u1), .second, .val (.long u2), .second, .val (.long u3), .second, .val (.long u4), .second, .val (.long u5), .second, .val (.long u6), .second, .val (.long u7), .second, .val (.long u8), .second] [(.ref b1)])) _
    refine XS.dup X15.here hx rfl (hb hby d1_147) rfl rfl ?_
    refine XS.bipush X15.here hx rfl (hb hby d1_148) ?_
    refine XS.lload X15.here hx rfl (hb hby d1_150) rfl ?_
    refine XS.l2dS X15.here hx rfl (hb hby d1_152) rfl (v := d7) e_d7.symm ?_
    refine st17 _ ?_
    show Steps p.tables e below (T17.setTop (mkF m 154 #[.val (.int u0), .val (.long u1), .second, .val (.long u2), .second, .val (.long u3), .second, .val (.long u4), .second, .val (.long u5), .second, .val (.long u6), .second, .val (.long u7), .second, .val (.long u8), .second] [(.ref b1)])) _
    jvm_step X17.here [X17.here.top, hx, (hb hby d1_154), X17.method', Bd.returns, Value.isRef, FieldType.isReference]
    first | (intro acts; rw [hr _ acts rfl rfl rfl]) | rw [hr _ _ rfl rfl rfl]
    exact Steps.refl _
  · show QB4 Z u0 u1 u2 u3 u4 u5 u6 u7 u8 d0 d1 d2 d3 d4 d5 d6 d7 h0 n0 _ T17.heap _
    rw [e17]
    exact ⟨(by rw [g1]), N17, KK17, _, (by rw [← g1]; exact V17)⟩
theorem d2_0 : decode prog_81_method_4_code 0 = .ok (.aload_n 0, 1) := by decide +kernel
theorem d2_1 : decode prog_81_method_4_code 1 = .ok (.arraylength, 1) := by decide +kernel
theorem d2_2 : decode prog_81_method_4_code 2 = .ok (.iconst 2, 1) := by decide +kernel
theorem d2_3 : decode prog_81_method_4_code 3 = .ok (.idiv, 1) := by decide +kernel
theorem d2_4 : decode prog_81_method_4_code 4 = .ok (.istore_n 1, 1) := by decide +kernel
theorem d2_5 : decode prog_81_method_4_code 5 = .ok (.dconst 0, 1) := by decide +kernel
theorem d2_6 : decode prog_81_method_4_code 6 = .ok (.dstore_n 2, 1) := by decide +kernel
theorem d2_7 : decode prog_81_method_4_code 7 = .ok (.iconst 0, 1) := by decide +kernel
theorem d2_8 : decode prog_81_method_4_code 8 = .ok (.istore 4, 2) := by decide +kernel
theorem d2_10 : decode prog_81_method_4_code 10 = .ok (.iload 4, 2) := by decide +kernel
theorem d2_12 : decode prog_81_method_4_code 12 = .ok (.iload_n 1, 1) := by decide +kernel
theorem d2_13 : decode prog_81_method_4_code 13 = .ok (.if_icmp .ge 51, 3) := by decide +kernel
theorem d2_64 : decode prog_81_method_4_code 64 = .ok (.dload_n 2, 1) := by decide +kernel
theorem d2_65 : decode prog_81_method_4_code 65 = .ok (.dconst 0, 1) := by decide +kernel
theorem d2_66 : decode prog_81_method_4_code 66 = .ok (.dcmp .l, 1) := by decide +kernel
theorem d2_67 : decode prog_81_method_4_code 67 = .ok (.ifCond .lt 5, 3) := by decide +kernel
theorem d2_70 : decode prog_81_method_4_code 70 = .ok (.aload_n 0, 1) := by decide +kernel
theorem d2_71 : decode prog_81_method_4_code 71 = .ok (.areturn, 1) := by decide +kernel
theorem pn_com_example_decorum_decorum_graphics_Rasterizer : plainName "com/example/decorum/decorum/graphics/Rasterizer" = true := by first | (simp [plainName, overriddenIn]; done) | decide +kernel
theorem ef_C0 (m : MethodId) (u0 : Addr) : entryFrame m #[(.ref u0)] 6 = mkF m 0 #[.val (.ref u0), .unset, .unset, .unset, .unset, .unset] [] := by first | (simp [entryFrame, mkF, argsToLocals, Value.category]; done) | rfl
def QC0 (Z : State) (u0 : Addr) (k_u0 : ClassId) (h0 : Heap) (n0 : Nat) (v : Option Value) (h : Heap) (L : List Loc) : Prop := v = some (.ref u0) ∧ Fr n0 L ∧ h = h0
set_option maxRecDepth 65536 in
set_option maxHeartbeats 40000000 in
theorem rmC0 (l : Launch) (Z : State) (a0 : Array Value) (hw : ∀ d ∈ tables_1, d.before a0 Z = true) (ws : List Jvm.Cond) (u0 : Addr) (k_u0 : ClassId) (h0 : Heap) (n0 : Nat) (Z0 : n0 ≤ h0.size) (V_u0 : Arv Z h0 u0 k_u0 .double (0 : Int32) [] (.double (0 : UInt64))) (hA : ¬ ((0 : Int) < 0)) :
    MetFree l (⟨"com/example/decorum/decorum/graphics/Rasterizer", "clockwise", "([D)[D"⟩ : MethodName) (head1 (Jvm.Cond.code (⟨"com/example/decorum/decorum/graphics/Rasterizer", "clockwise", "([D)[D"⟩ : MethodName) prog_81_method_4_code 6 (some (.array .double)) :: ws) ({ frames := 0, cells := 0, slots := 0, locals := 0 } : Room)) (fun a U => a = #[(.ref u0)] ∧ Z.Warmed39 U.vm ∧ U.heap = h0) (fun _ _ _ _ _ => True) (fun _ U o U' => ∃ v L, o = .returned v ∧ QC0 Z u0 k_u0 h0 n0 v U'.heap L ∧ FrameEnd U o U' L ({ frames := 0, cells := 0, slots := 0, locals := 0 } : Room).cells ({ frames := 0, cells := 0, slots := 0, locals := 0 } : Room).slots) := by
  refine MetFree.of_bodySF (plainFor_of_name pn_com_example_decorum_decorum_graphics_Rasterizer) hisR ?_
  intro p e s m args below meth c s₁ Bd hml0 hP hK
  obtain ⟨rfl, hZ, hh⟩ := hP
  have hx := Bd.exec
  have hby := Bd.bytes
  have hml : c.maxLocals = 6 := hml0
  have hown : s.vm.findClass "com/example/decorum/decorum/graphics/Rasterizer" = some m.cls := findClass_of_methodNamed Bd.named
  have hnm := (name_of_methodNamed Bd.named Bd.method).1
  have X0 : Stand p l e ({ frames := 0, cells := 0, slots := 0, locals := 0 } : Room) s m #[(.ref u0)] below meth c s₁ [] 0 0 := Stand.of_body Bd
  have e0 : s₁.heap = h0 := by rw [← hh, Bd.state]; rfl
  have N0 := Fr.nil n0
  have pre0 : ∀ t, Steps p.tables e below (s₁.setTop (mkF m 0 #[.val (.ref u0), .unset, .unset, .unset, .unset, .unset] [])) t → Steps p.tables e below (s₁.setTop (entryFrame m #[(.ref u0)] 6)) t := fun t k => castTop (ef_C0 m u0) k
  obtain ⟨cl1, Ar1, qa1, Sa1, Na1, Ha1, Ga1⟩ := id V_u0
  have st1 := X0.arraylength hx (by rw [e0]; exact Ar1.1) (State.isArrayOf_alike hZ.alike Ar1.2.1) (g := (mkF m 1 #[.val (.ref u0), .unset, .unset, .unset, .unset, .unset] [(.ref u0)])) rfl rfl (hb hby d2_1)
  rw [len_of Sa1 Na1] at st1
  obtain ⟨cv2, ce2⟩ : ∃ z, z = cmpValue (FP.dcmp (0 : UInt64) (0 : UInt64)) .l := ⟨_, rfl⟩
  obtain ⟨fs, hr, hrun, hended, hW, hsame⟩ := X0.leave (v := some (.ref u0)) (fun h => by rw [Bd.returns] at h; cases h)
  refine ⟨_, _, pre0 _ ?_, hrun, hended, _, _, rfl, ?_, ⟨_, rfl⟩, hW, hsame.mono (by decide) (by decide)⟩
  · show Steps p.tables e below (s₁.setTop (mkF m 0 #[.val (.ref u0), .unset, .unset, .unset, .unset, .unset] [])) _
    refine XS.aloadN X0.here hx rfl (hb hby d2_0) rfl rfl ?_
    refine st1 _ ?_
    show Steps p.tables e below (s₁.setTop (mkF m 2 #[.val (.ref u0), .unset, .unset, .unset, .unset, .unset] [(.int (0 : Int32))])) _
    refine XS.iconst X0.here hx rfl (hb hby d2_2) ?_
    show Steps p.tables e below (s₁.setTop (mkF m 3 #[.val (.ref u0), .unset, .unset, .unset, .unset, .unset] [(.int (2 : Int32)), (.int (0 : Int32))])) _
    refine XS.idiv X0.here hx rfl (hb hby d2_3) rfl (by decide) ?_
    show Steps p.tables e below (s₁.setTop (mkF m 4 #[.val (.ref u0), .unset, .unset, .unset, .unset, .unset] [(.int (0 : Int32))])) _
    refine XS.istoreN X0.here hx rfl (hb hby d2_4) rfl (l' := #[.val (.ref u0), .val (.int (0 : Int32)), .unset, .unset, .unset, .unset]) rfl ?_
    refine XS.dconst0 X0.here hx rfl (hb hby d2_5) (v := 0) (by decide +kernel) ?_
    refine XS.dstoreN X0.here hx rfl (hb hby d2_6) rfl (l' := #[.val (.ref u0), .val (.int (0 : Int32)), .val (.double (0 : UInt64)), .second, .unset, .unset]) rfl ?_
    refine XS.iconst X0.here hx rfl (hb hby d2_7) ?_
    refine XS.istore X0.here hx rfl (hb hby d2_8) rfl (l' := #[.val (.ref u0), .val (.int (0 : Int32)), .val (.double (0 : UInt64)), .second, .val (.int (0 : Int32)), .unset]) rfl ?_
    refine XS.iload X0.here hx rfl (hb hby d2_10) rfl ?_
    refine XS.iloadN X0.here hx rfl (hb hby d2_12) rfl ?_
    refine XS.icmpYes X0.here hx rfl (pc0 := 13) (pc' := 64) rfl (hb hby d2_13) rfl (flt (by decide)).2.1 (by decide) (by decide) ?_
    refine XS.dloadN X0.here hx rfl (hb hby d2_64) rfl ?_
    refine XS.dconst0 X0.here hx rfl (hb hby d2_65) (v := 0) (by decide +kernel) ?_
    refine XS.dcmpS X0.here hx rfl (hb hby d2_66) rfl (v := cv2) ce2.symm ?_
    refine XS.ifNo X0.here hx rfl (hb hby d2_67) rfl ((if0 _ _).trans (flt (by rw [ce2]; exact fun q => hA ((DI.cmp DI.zero).mp q))).1) ?_
    show Steps p.tables e below (s₁.setTop (mkF m 70 #[.val (.ref u0), .val (.int (0 : Int32)), .val (.double (0 : UInt64)), .second, .val (.int (0 : Int32)), .unset] [])) _
    refine XS.aloadN X0.here hx rfl (hb hby d2_70) rfl rfl ?_
    show Steps p.tables e below (s₁.setTop (mkF m 71 #[.val (.ref u0), .val (.int (0 : Int32)), .val (.double (0 : UInt64)), .second, .val (.int (0 : Int32)), .unset] [(.ref u0)])) _
    jvm_step X0.here [X0.here.top, hx, (hb hby d2_71), X0.method', Bd.returns, Value.isRef, FieldType.isReference]
    first | (intro acts; rw [hr _ acts rfl rfl rfl]) | rw [hr _ _ rfl rfl rfl]
    exact Steps.refl _
  · show QC0 Z u0 k_u0 h0 n0 _ s₁.heap _
    rw [e0]
    exact ⟨rfl, N0, rfl⟩
theorem d2_16 : decode prog_81_method_4_code 16 = .ok (.iload 4, 2) := by decide +kernel
theorem d2_18 : decode prog_81_method_4_code 18 = .ok (.iconst 1, 1) := by decide +kernel
theorem d2_19 : decode prog_81_method_4_code 19 = .ok (.iadd, 1) := by decide +kernel
theorem d2_20 : decode prog_81_method_4_code 20 = .ok (.iload_n 1, 1) := by decide +kernel
theorem d2_21 : decode prog_81_method_4_code 21 = .ok (.irem, 1) := by decide +kernel
theorem d2_22 : decode prog_81_method_4_code 22 = .ok (.istore 5, 2) := by decide +kernel
theorem d2_24 : decode prog_81_method_4_code 24 = .ok (.dload_n 2, 1) := by decide +kernel
theorem d2_25 : decode prog_81_method_4_code 25 = .ok (.aload_n 0, 1) := by decide +kernel
theorem d2_26 : decode prog_81_method_4_code 26 = .ok (.iconst 2, 1) := by decide +kernel
theorem d2_27 : decode prog_81_method_4_code 27 = .ok (.iload 4, 2) := by decide +kernel
theorem d2_29 : decode prog_81_method_4_code 29 = .ok (.imul, 1) := by decide +kernel
theorem d2_30 : decode prog_81_method_4_code 30 = .ok (.daload, 1) := by decide +kernel
theorem d2_31 : decode prog_81_method_4_code 31 = .ok (.aload_n 0, 1) := by decide +kernel
theorem d2_32 : decode prog_81_method_4_code 32 = .ok (.iconst 2, 1) := by decide +kernel
theorem d2_33 : decode prog_81_method_4_code 33 = .ok (.iload 5, 2) := by decide +kernel
theorem d2_35 : decode prog_81_method_4_code 35 = .ok (.imul, 1) := by decide +kernel
theorem d2_36 : decode prog_81_method_4_code 36 = .ok (.iconst 1, 1) := by decide +kernel
theorem d2_37 : decode prog_81_method_4_code 37 = .ok (.iadd, 1) := by decide +kernel
theorem d2_38 : decode prog_81_method_4_code 38 = .ok (.daload, 1) := by decide +kernel
theorem d2_39 : decode prog_81_method_4_code 39 = .ok (.dmul, 1) := by decide +kernel
theorem d2_40 : decode prog_81_method_4_code 40 = .ok (.aload_n 0, 1) := by decide +kernel
theorem d2_41 : decode prog_81_method_4_code 41 = .ok (.iconst 2, 1) := by decide +kernel
theorem d2_42 : decode prog_81_method_4_code 42 = .ok (.iload 5, 2) := by decide +kernel
theorem d2_44 : decode prog_81_method_4_code 44 = .ok (.imul, 1) := by decide +kernel
theorem d2_45 : decode prog_81_method_4_code 45 = .ok (.daload, 1) := by decide +kernel
theorem d2_46 : decode prog_81_method_4_code 46 = .ok (.aload_n 0, 1) := by decide +kernel
theorem d2_47 : decode prog_81_method_4_code 47 = .ok (.iconst 2, 1) := by decide +kernel
theorem d2_48 : decode prog_81_method_4_code 48 = .ok (.iload 4, 2) := by decide +kernel
theorem d2_50 : decode prog_81_method_4_code 50 = .ok (.imul, 1) := by decide +kernel
theorem d2_51 : decode prog_81_method_4_code 51 = .ok (.iconst 1, 1) := by decide +kernel
theorem d2_52 : decode prog_81_method_4_code 52 = .ok (.iadd, 1) := by decide +kernel
theorem d2_53 : decode prog_81_method_4_code 53 = .ok (.daload, 1) := by decide +kernel
theorem d2_54 : decode prog_81_method_4_code 54 = .ok (.dmul, 1) := by decide +kernel
theorem d2_55 : decode prog_81_method_4_code 55 = .ok (.dsub, 1) := by decide +kernel
theorem d2_56 : decode prog_81_method_4_code 56 = .ok (.dadd, 1) := by decide +kernel
theorem d2_57 : decode prog_81_method_4_code 57 = .ok (.dstore_n 2, 1) := by decide +kernel
theorem d2_58 : decode prog_81_method_4_code 58 = .ok (.iinc 4 1, 3) := by decide +kernel
theorem d2_61 : decode prog_81_method_4_code 61 = .ok (.goto (-51), 3) := by decide +kernel
theorem ef_C1 (m : MethodId) (u0 : Addr) : entryFrame m #[(.ref u0)] 6 = mkF m 0 #[.val (.ref u0), .unset, .unset, .unset, .unset, .unset] [] := by first | (simp [entryFrame, mkF, argsToLocals, Value.category]; done) | rfl
def QC1 (Z : State) (u0 : Addr) (k_u0 : ClassId) (d0 : UInt64) (d1 : UInt64) (x0 : Int) (x1 : Int) (h0 : Heap) (n0 : Nat) (v : Option Value) (h : Heap) (L : List Loc) : Prop := v = some (.ref u0) ∧ Fr n0 L ∧ h = h0
set_option maxRecDepth 65536 in
set_option maxHeartbeats 40000000 in
theorem rmC1 (l : Launch) (Z : State) (a0 : Array Value) (hw : ∀ d ∈ tables_1, d.before a0 Z = true) (ws : List Jvm.Cond) (u0 : Addr) (k_u0 : ClassId) (d0 : UInt64) (d1 : UInt64) (x0 : Int) (x1 : Int) (h0 : Heap) (n0 : Nat) (Z0 : n0 ≤ h0.size) (V_u0 : Arv Z h0 u0 k_u0 .double (2 : Int32) [(.double d0), (.double d1)] (.double (0 : UInt64))) (D0 : DI x0 32768 d0) (D1 : DI x1 32768 d1) (hA : ¬ (((0 : Int) + ((x0 * x1) - (x0 * x1))) < 0)) :
    MetFree l (⟨"com/example/decorum/decorum/graphics/Rasterizer", "clockwise", "([D)[D"⟩ : MethodName) (head1 (Jvm.Cond.code (⟨"com/example/decorum/decorum/graphics/Rasterizer", "clockwise", "([D)[D"⟩ : MethodName) prog_81_method_4_code 6 (some (.array .double)) :: ws) ({ frames := 0, cells := 0, slots := 0, locals := 0 } : Room)) (fun a U => a = #[(.ref u0)] ∧ Z.Warmed39 U.vm ∧ U.heap = h0) (fun _ _ _ _ _ => True) (fun _ U o U' => ∃ v L, o = .returned v ∧ QC1 Z u0 k_u0 d0 d1 x0 x1 h0 n0 v U'.heap L ∧ FrameEnd U o U' L ({ frames := 0, cells := 0, slots := 0, locals := 0 } : Room).cells ({ frames := 0, cells := 0, slots := 0, locals := 0 } : Room).slots) := by
  refine MetFree.of_bodySF (plainFor_of_name pn_com_example_decorum_decorum_graphics_Rasterizer) hisR ?_
  intro p e s m args below meth c s₁ Bd hml0 hP hK
  obtain ⟨rfl, hZ, hh⟩ := hP
  have hx := Bd.exec
  have hby := Bd.bytes
  have hml : c.maxLocals = 6 := hml0
  have hown : s.vm.findClass "com/example/decorum/decorum/graphics/Rasterizer" = some m.cls := findClass_of_methodNamed Bd.named
  have hnm := (name_of_methodNamed Bd.named Bd.method).1
  have X0 : Stand p l e ({ frames := 0, cells := 0, slots := 0, locals := 0 } : Room) s m #[(.ref u0)] below meth c s₁ [] 0 0 := Stand.of_body Bd
  have e0 : s₁.heap = h0 := by rw [← hh, Bd.state]; rfl
  have N0 := Fr.nil n0
  have pre0 : ∀ t, Steps p.tables e below (s₁.setTop (mkF m 0 #[.val (.ref u0), .unset, .unset, .unset, .unset, .unset] [])) t → Steps p.tables e below (s₁.setTop (entryFrame m #[(.ref u0)] 6)) t := fun t k => castTop (ef_C1 m u0) k
  obtain ⟨cl1, Ar1, qa1, Sa1, Na1, Ha1, Ga1⟩ := id V_u0
  have st1 := X0.arraylength hx (by rw [e0]; exact Ar1.1) (State.isArrayOf_alike hZ.alike Ar1.2.1) (g := (mkF m 1 #[.val (.ref u0), .unset, .unset, .unset, .unset, .unset] [(.ref u0)])) rfl rfl (hb hby d2_1)
  rw [len_of Sa1 Na1] at st1
  have hi2 := inb_of (j := (0 : Int32)) Sa1 ⟨by decide, by decide⟩
  have st2 := X0.daload hx (j := (0 : Int32)) (v := (.double d0)) (by rw [e0]; exact Ar1.1) (State.isArrayOf_alike hZ.alike Ar1.2.1) Ar1.2.2 hi2 (Has.at Ha1 hi2 rfl) (g := (mkF m 30 #[.val (.ref u0), .val (.int (1 : Int32)), .val (.double (0 : UInt64)), .second, .val (.int (0 : Int32)), .val (.int (0 : Int32))] [(.int (0 : Int32)), (.ref u0), (.double (0 : UInt64))])) rfl rfl (hb hby d2_30)
  have hi3 := inb_of (j := (1 : Int32)) Sa1 ⟨by decide, by decide⟩
  have st3 := X0.daload hx (j := (1 : Int32)) (v := (.double d1)) (by rw [e0]; exact Ar1.1) (State.isArrayOf_alike hZ.alike Ar1.2.1) Ar1.2.2 hi3 (Has.at Ha1 hi3 rfl) (g := (mkF m 38 #[.val (.ref u0), .val (.int (1 : Int32)), .val (.double (0 : UInt64)), .second, .val (.int (0 : Int32)), .val (.int (0 : Int32))] [(.int (1 : Int32)), (.ref u0), (.double d0), (.double (0 : UInt64))])) rfl rfl (hb hby d2_38)
  obtain ⟨fv4, fe4⟩ : ∃ z, z = FP.dmul d0 d1 := ⟨_, rfl⟩
  have di4 : DI (x0 * x1) 1073741824 fv4 := DI.mul D0 D1 fe4 (by decide)
  have hi5 := inb_of (j := (0 : Int32)) Sa1 ⟨by decide, by decide⟩
  have st5 := X0.daload hx (j := (0 : Int32)) (v := (.double d0)) (by rw [e0]; exact Ar1.1) (State.isArrayOf_alike hZ.alike Ar1.2.1) Ar1.2.2 hi5 (Has.at Ha1 hi5 rfl) (g := (mkF m 45 #[.val (.ref u0), .val (.int (1 : Int32)), .val (.double (0 : UInt64)), .second, .val (.int (0 : Int32)), .val (.int (0 : Int32))] [(.int (0 : Int32)), (.ref u0), (.double fv4), (.double (0 : UInt64))])) rfl rfl (hb hby d2_45)
  have hi6 := inb_of (j := (1 : Int32)) Sa1 ⟨by decide, by decide⟩
  have st6 := X0.daload hx (j := (1 : Int32)) (v := (.double d1)) (by rw [e0]; exact Ar1.1) (State.isArrayOf_alike hZ.alike Ar1.2.1) Ar1.2.2 hi6 (Has.at Ha1 hi6 rfl) (g := (mkF m 53 #[.val (.ref u0), .val (.int (1 : Int32)), .val (.double (0 : UInt64)), .second, .val (.int (0 : Int32)), .val (.int (0 : Int32))] [(.int (1 : Int32)), (.ref u0), (.double d0), (.double fv4), (.double (0 : UInt64))])) rfl rfl (hb hby d2_53)
  obtain ⟨fv7, fe7⟩ : ∃ z, z = FP.dmul d0 d1 := ⟨_, rfl⟩
  have di7 : DI (x0 * x1) 1073741824 fv7 := DI.mul D0 D1 fe7 (by decide)
  obtain ⟨fv8, fe8⟩ : ∃ z, z = FP.dsub fv4 fv7 := ⟨_, rfl⟩
  have di8 : DI ((x0 * x1) - (x0 * x1)) 2147483648 fv8 := DI.sub di4 di7 fe8 (by decide)
  obtain ⟨fv9, fe9⟩ : ∃ z, z = FP.dadd (0 : UInt64) fv8 := ⟨_, rfl⟩
  have di9 : DI ((0 : Int) + ((x0 * x1) - (x0 * x1))) 2147483648 fv9 := DI.add DI.zero di8 fe9 (by decide)
  obtain ⟨cv10, ce10⟩ : ∃ z, z = cmpValue (FP.dcmp fv9 (0 : UInt64)) .l := ⟨_, rfl⟩
  obtain ⟨fs, hr, hrun, hended, hW, hsame⟩ := X0.leave (v := some (.ref u0)) (fun h => by rw [Bd.returns] at h; cases h)
  refine ⟨_, _, pre0 _ ?_, hrun, hended, _, _, rfl, ?_, ⟨_, rfl⟩, hW, hsame.mono (by decide) (by decide)⟩
  · show Steps p.tables e below (s₁.setTop (mkF m 0 #[.val (.ref u0), .unset, .unset, .unset, .unset, .unset] [])) _
    refine XS.aloadN X0.here hx rfl (hb hby d2_0) rfl rfl ?_
    refine st1 _ ?_
    show Steps p.tables e below (s₁.setTop (mkF m 2 #[.val (.ref u0), .unset, .unset, .unset, .unset, .unset] [(.int (2 : Int32))])) _
    refine XS.iconst X0.here hx rfl (hb hby d2_2) ?_
    show Steps p.tables e below (s₁.setTop (mkF m 3 #[.val (.ref u0), .unset, .unset, .unset, .unset, .unset] [(.int (2 : Int32)), (.int (2 : Int32))])) _
    refine XS.idiv X0.here hx rfl (hb hby d2_3) rfl (by decide) ?_
    show Steps p.tables e below (s₁.setTop (mkF m 4 #[.val (.ref u0), .unset, .unset, .unset, .unset, .unset] [(.int (1 : Int32))])) _
    refine XS.istoreN X0.here hx rfl (hb hby d2_4) rfl (l' := #[.val (.ref u0), .val (.int (1 : Int32)), .unset, .unset, .unset, .unset]) rfl ?_
    refine XS.dconst0 X0.here hx rfl (hb hby d2_5) (v := 0) (by decide +kernel) ?_
    refine XS.dstoreN X0.here hx rfl (hb hby d2_6) rfl (l' := #[.val (.ref u0), .val (.int (1 : Int32)), .val (.double (0 : UInt64)), .second, .unset, .unset]) rfl ?_
    refine XS.iconst X0.here hx rfl (hb hby d2_7) ?_
    refine XS.istore X0.here hx rfl (hb hby d2_8) rfl (l' := #[.val (.ref u0), .val (.int (1 : Int32)), .val (.double (0 : UInt64)), .second, .val (.int (0 : Int32)), .unset]) rfl ?_
    refine XS.iload X0.here hx rfl (hb hby d2_10) rfl ?_
    refine XS.iloadN X0.here hx rfl (hb hby d2_12) rfl ?_
    refine XS.icmpNo X0.here hx rfl (hb hby d2_13) rfl (tlt (by decide)).2.1 ?_
    refine XS.iload X0.here hx rfl (hb hby d2_16) rfl ?_
    refine XS.iconst X0.here hx rfl (hb hby d2_18) ?_
    show Steps p.tables e below (s₁.setTop (mkF m 19 #[.val (.ref u0), .val (.int (1 : Int32)), .val (.double (0 : UInt64)), .second, .val (.int (0 : Int32)), .unset] [(.int (1 : Int32)), (.int (0 : Int32))])) _
    refine XS.iadd X0.here hx rfl (hb hby d2_19) rfl ?_
    show Steps p.tables e below (s₁.setTop (mkF m 20 #[.val (.ref u0), .val (.int (1 : Int32)), .val (.double (0 : UInt64)), .second, .val (.int (0 : Int32)), .unset] [(.int (1 : Int32))])) _
    refine XS.iloadN X0.here hx rfl (hb hby d2_20) rfl ?_
    show Steps p.tables e below (s₁.setTop (mkF m 21 #[.val (.ref u0), .val (.int (1 : Int32)), .val (.double (0 : UInt64)), .second, .val (.int (0 : Int32)), .unset] [(.int (1 : Int32)), (.int (1 : Int32))])) _
    refine iremM X0 hx rfl (hb hby d2_21) rfl (by decide) ?_
    show Steps p.tables e below (s₁.setTop (mkF m 22 #[.val (.ref u0), .val (.int (1 : Int32)), .val (.double (0 : UInt64)), .second, .val (.int (0 : Int32)), .unset] [(.int (0 : Int32))])) _
    refine XS.istore X0.here hx rfl (hb hby d2_22) rfl (l' := #[.val (.ref u0), .val (.int (1 : Int32)), .val (.double (0 : UInt64)), .second, .val (.int (0 : Int32)), .val (.int (0 : Int32))]) rfl ?_
    refine XS.dloadN X0.here hx rfl (hb hby d2_24) rfl ?_
    refine XS.aloadN X0.here hx rfl (hb hby d2_25) rfl rfl ?_
    refine XS.iconst X0.here hx rfl (hb hby d2_26) ?_
    refine XS.iload X0.here hx rfl (hb hby d2_27) rfl ?_
    show Steps p.tables e below (s₁.setTop (mkF m 29 #[.val (.ref u0), .val (.int (1 : Int32)), .val (.double (0 : UInt64)), .second, .val (.int (0 : Int32)), .val (.int (0 : Int32))] [(.int (0 : Int32)), (.int (2 : Int32)), (.ref u0), (.double (0 : UInt64))])) _
    refine XS.imul X0.here hx rfl (hb hby d2_29) rfl ?_
    refine st2 _ ?_
    show Steps p.tables e below (s₁.setTop (mkF m 31 #[.val (.ref u0), .val (.int (1 : Int32)), .val (.double (0 : UInt64)), .second, .val (.int (0 : Int32)), .val (.int (0 : Int32))] [(.double d0), (.double (0 : UInt64))])) _
    refine XS.aloadN X0.here hx rfl (hb hby d2_31) rfl rfl ?_
    refine XS.iconst X0.here hx rfl (hb hby d2_32) ?_
    refine XS.iload X0.here hx rfl (hb hby d2_33) rfl ?_
    show Steps p.tables e below (s₁.setTop (mkF m 35 #[.val (.ref u0), .val (.int (1 : Int32)), .val (.double (0 : UInt64)), .second, .val (.int (0 : Int32)), .val (.int (0 : Int32))] [(.int (0 : Int32)), (.int (2 : Int32)), (.ref u0), (.double d0), (.double (0 : UInt64))])) _
    refine XS.imul X0.here hx rfl (hb hby d2_35) rfl ?_
    show Steps p.tables e below (s₁.setTop (mkF m 36 #[.val (.ref u0), .val (.int (1 : Int32)), .val (.double (0 : UInt64)), .second, .val (.int (0 : Int32)), .val (.int (0 : Int32))] [(.int (0 : Int32)), (.ref u0), (.double d0), (.double (0 : UInt64))])) _
    refine XS.iconst X0.here hx rfl (hb hby d2_36) ?_
    show Steps p.tables e below (s₁.setTop (mkF m 37 #[.val (.ref u0), .val (.int (1 : Int32)), .val (.double (0 : UInt64)), .second, .val (.int (0 : Int32)), .val (.int (0 : Int32))] [(.int (1 : Int32)), (.int (0 : Int32)), (.ref u0), (.double d0), (.double (0 : UInt64))])) _
    refine XS.iadd X0.here hx rfl (hb hby d2_37) rfl ?_
    refine st3 _ ?_
    show Steps p.tables e below (s₁.setTop (mkF m 39 #[.val (.ref u0), .val (.int (1 : Int32)), .val (.double (0 : UInt64)), .second, .val (.int (0 : Int32)), .val (.int (0 : Int32))] [(.double d1), (.double d0), (.double (0 : UInt64))])) _
    refine XS.dmulS X0.here hx rfl (hb hby d2_39) rfl (v := fv4) (by rw [← fe4]; exact di4.nn) fe4.symm ?_
    refine XS.aloadN X0.here hx rfl (hb hby d2_40) rfl rfl ?_
    refine XS.iconst X0.here hx rfl (hb hby d2_41) ?_
    refine XS.iload X0.here hx rfl (hb hby d2_42) rfl ?_
    show Steps p.tables e below (s₁.setTop (mkF m 44 #[.val (.ref u0), .val (.int (1 : Int32)), .val (.double (0 : UInt64)), .second, .val (.int (0 : Int32)), .val (.int (0 : Int32))] [(.int (0 : Int32)), (.int (2 : Int32)), (.ref u0), (.double fv4), (.double (0 : UInt64))])) _
    refine XS.imul X0.here hx rfl (hb hby d2_44) rfl ?_
    refine st5 _ ?_
    show Steps p.tables e below (s₁.setTop (mkF m 46 #[.val (.ref u0), .val (.int (1 : Int32)), .val (.double (0 : UInt64)), .second, .val (.int (0 : Int32)), .val (.int (0 : Int32))] [(.double d0), (.double fv4), (.double (0 : UInt64))])) _
    refine XS.aloadN X0.here hx rfl (hb hby d2_46) rfl rfl ?_
    refine XS.iconst X0.here hx rfl (hb hby d2_47) ?_
    refine XS.iload X0.here hx rfl (hb hby d2_48) rfl ?_
    show Steps p.tables e below (s₁.setTop (mkF m 50 #[.val (.ref u0), .val (.int (1 : Int32)), .val (.double (0 : UInt64)), .second, .val (.int (0 : Int32)), .val (.int (0 : Int32))] [(.int (0 : Int32)), (.int (2 : Int32)), (.ref u0), (.double d0), (.double fv4), (.double (0 : UInt64))])) _
    refine XS.imul X0.here hx rfl (hb hby d2_50) rfl ?_
    show Steps p.tables e below (s₁.setTop (mkF m 51 #[.val (.ref u0), .val (.int (1 : Int32)), .val (.double (0 : UInt64)), .second, .val (.int (0 : Int32)), .val (.int (0 : Int32))] [(.int (0 : Int32)), (.ref u0), (.double d0), (.double fv4), (.double (0 : UInt64))])) _
    refine XS.iconst X0.here hx rfl (hb hby d2_51) ?_
    show Steps p.tables e below (s₁.setTop (mkF m 52 #[.val (.ref u0), .val (.int (1 : Int32)), .val (.double (0 : UInt64)), .second, .val (.int (0 : Int32)), .val (.int (0 : Int32))] [(.int (1 : Int32)), (.int (0 : Int32)), (.ref u0), (.double d0), (.double fv4), (.double (0 : UInt64))])) _
    refine XS.iadd X0.here hx rfl (hb hby d2_52) rfl ?_
    refine st6 _ ?_
    show Steps p.tables e below (s₁.setTop (mkF m 54 #[.val (.ref u0), .val (.int (1 : Int32)), .val (.double (0 : UInt64)), .second, .val (.int (0 : Int32)), .val (.int (0 : Int32))] [(.double d1), (.double d0), (.double fv4), (.double (0 : UInt64))])) _
    refine XS.dmulS X0.here hx rfl (hb hby d2_54) rfl (v := fv7) (by rw [← fe7]; exact di7.nn) fe7.symm ?_
    refine XS.dsubS X0.here hx rfl (hb hby d2_55) rfl (v := fv8) (by rw [← fe8]; exact di8.nn) fe8.symm ?_
    refine XS.daddS X0.here hx rfl (hb hby d2_56) rfl (v := fv9) (by rw [← fe9]; exact di9.nn) fe9.symm ?_
    refine XS.dstoreN X0.here hx rfl (hb hby d2_57) rfl (l' := #[.val (.ref u0), .val (.int (1 : Int32)), .val (.double fv9), .second, .val (.int (0 : Int32)), .val (.int (0 : Int32))]) rfl ?_
    show Steps p.tables e below (s₁.setTop (mkF m 58 #[.val (.ref u0), .val (.int (1 : Int32)), .val (.double fv9), .second, .val (.int (0 : Int32)), .val (.int (0 : Int32))] [])) _
    refine XS.iinc X0.here hx rfl (hb hby d2_58) rfl (l' := #[.val (.ref u0), .val (.int (1 : Int32)), .val (.double fv9), .second, .val (.int (1 : Int32)), .val (.int (0 : Int32))]) rfl ?_
    show Steps p.tables e below (s₁.setTop (mkF m 61 #[.val (.ref u0), .val (.int (1 : Int32)), .val (.double fv9), .second, .val (.int (1 : Int32)), .val (.int (0 : Int32))] [])) _
    refine XS.goto X0.here hx rfl (pc0 := 61) (pc' := 10) rfl (hb hby d2_61) (by decide) (by decide) ?_
    refine XS.iload X0.here hx rfl (hb hby d2_10) rfl ?_
    refine XS.iloadN X0.here hx rfl (hb hby d2_12) rfl ?_
    refine XS.icmpYes X0.here hx rfl (pc0 := 13) (pc' := 64) rfl (hb hby d2_13) rfl (flt (by decide)).2.1 (by decide) (by decide) ?_
    refine XS.dloadN X0.here hx rfl (hb hby d2_64) rfl ?_
    refine XS.dconst0 X0.here hx rfl (hb hby d2_65) (v := 0) (by decide +kernel) ?_
    refine XS.dcmpS X0.here hx rfl (hb hby d2_66) rfl (v := cv10) ce10.symm ?_
    refine XS.ifNo X0.here hx rfl (hb hby d2_67) rfl ((if0 _ _).trans (flt (by rw [ce10]; exact fun q => hA ((DI.cmp di9).mp q))).1) ?_
    refine XS.aloadN X0.here hx rfl (hb hby d2_70) rfl rfl ?_
    show Steps p.tables e below (s₁.setTop (mkF m 71 #[.val (.ref u0), .val (.int (1 : Int32)), .val (.double fv9), .second, .val (.int (1 : Int32)), .val (.int (0 : Int32))] [(.ref u0)])) _
    jvm_step X0.here [X0.here.top, hx, (hb hby d2_71), X0.method', Bd.returns, Value.isRef, FieldType.isReference]
    first | (intro acts; rw [hr _ acts rfl rfl rfl]) | rw [hr _ _ rfl rfl rfl]
    exact Steps.refl _
  · show QC1 Z u0 k_u0 d0 d1 x0 x1 h0 n0 _ s₁.heap _
    rw [e0]
    exact ⟨rfl, N0, rfl⟩
theorem ef_C2 (m : MethodId) (u0 : Addr) : entryFrame m #[(.ref u0)] 6 = mkF m 0 #[.val (.ref u0), .unset, .unset, .unset, .unset, .unset] [] := by first | (simp [entryFrame, mkF, argsToLocals, Value.category]; done) | rfl
def QC2 (Z : State) (u0 : Addr) (k_u0 : ClassId) (d0 : UInt64) (d1 : UInt64) (d2 : UInt64) (d3 : UInt64) (x0 : Int) (x1 : Int) (x2 : Int) (x3 : Int) (h0 : Heap) (n0 : Nat) (v : Option Value) (h : Heap) (L : List Loc) : Prop := v = some (.ref u0) ∧ Fr n0 L ∧ h = h0
set_option maxRecDepth 65536 in
set_option maxHeartbeats 40000000 in
theorem rmC2 (l : Launch) (Z : State) (a0 : Array Value) (hw : ∀ d ∈ tables_1, d.before a0 Z = true) (ws : List Jvm.Cond) (u0 : Addr) (k_u0 : ClassId) (d0 : UInt64) (d1 : UInt64) (d2 : UInt64) (d3 : UInt64) (x0 : Int) (x1 : Int) (x2 : Int) (x3 : Int) (h0 : Heap) (n0 : Nat) (Z0 : n0 ≤ h0.size) (V_u0 : Arv Z h0 u0 k_u0 .double (4 : Int32) [(.double d0), (.double d1), (.double d2), (.double d3)] (.double (0 : UInt64))) (D0 : DI x0 32768 d0) (D1 : DI x1 32768 d1) (D2 : DI x2 32768 d2) (D3 : DI x3 32768 d3) (hA : ¬ ((((0 : Int) + ((x0 * x3) - (x2 * x1))) + ((x2 * x1) - (x0 * x3))) < 0)) :
    MetFree l (⟨"com/example/decorum/decorum/graphics/Rasterizer", "clockwise", "([D)[D"⟩ : MethodName) (head1 (Jvm.Cond.code (⟨"com/example/decorum/decorum/graphics/Rasterizer", "clockwise", "([D)[D"⟩ : MethodName) prog_81_method_4_code 6 (some (.array .double)) :: ws) ({ frames := 0, cells := 0, slots := 0, locals := 0 } : Room)) (fun a U => a = #[(.ref u0)] ∧ Z.Warmed39 U.vm ∧ U.heap = h0) (fun _ _ _ _ _ => True) (fun _ U o U' => ∃ v L, o = .returned v ∧ QC2 Z u0 k_u0 d0 d1 d2 d3 x0 x1 x2 x3 h0 n0 v U'.heap L ∧ FrameEnd U o U' L ({ frames := 0, cells := 0, slots := 0, locals := 0 } : Room).cells ({ frames := 0, cells := 0, slots := 0, locals := 0 } : Room).slots) := by
  refine MetFree.of_bodySF (plainFor_of_name pn_com_example_decorum_decorum_graphics_Rasterizer) hisR ?_
  intro p e s m args below meth c s₁ Bd hml0 hP hK
  obtain ⟨rfl, hZ, hh⟩ := hP
  have hx := Bd.exec
  have hby := Bd.bytes
  have hml : c.maxLocals = 6 := hml0
  have hown : s.vm.findClass "com/example/decorum/decorum/graphics/Rasterizer" = some m.cls := findClass_of_methodNamed Bd.named
  have hnm := (name_of_methodNamed Bd.named Bd.method).1
  have X0 : Stand p l e ({ frames := 0, cells := 0, slots := 0, locals := 0 } : Room) s m #[(.ref u0)] below meth c s₁ [] 0 0 := Stand.of_body Bd
  have e0 : s₁.heap = h0 := by rw [← hh, Bd.state]; rfl
  have N0 := Fr.nil n0
  have pre0 : ∀ t, Steps p.tables e below (s₁.setTop (mkF m 0 #[.val (.ref u0), .unset, .unset, .unset, .unset, .unset] [])) t → Steps p.tables e below (s₁.setTop (entryFrame m #[(.ref u0)] 6)) t := fun t k => castTop (ef_C2 m u0) k
  obtain ⟨cl1, Ar1, qa1, Sa1, Na1, Ha1, Ga1⟩ := id V_u0
  have st1 := X0.arraylength hx (by rw [e0]; exact Ar1.1) (State.isArrayOf_alike hZ.alike Ar1.2.1) (g := (mkF m 1 #[.val (.ref u0), .unset, .unset, .unset, .unset, .unset] [(.ref u0)])) rfl rfl (hb hby d2_1)
  rw [len_of Sa1 Na1] at st1
  have hi2 := inb_of (j := (0 : Int32)) Sa1 ⟨by decide, by decide⟩
  have st2 := X0.daload hx (j := (0 : Int32)) (v := (.double d0)) (by rw [e0]; exact Ar1.1) (State.isArrayOf_alike hZ.alike Ar1.2.1) Ar1.2.2 hi2 (Has.at Ha1 hi2 rfl) (g := (mkF m 30 #[.val (.ref u0), .val (.int (2 : Int32)), .val (.double (0 : UInt64)), .second, .val (.int (0 : Int32)), .val (.int (1 : Int32))] [(.int (0 : Int32)), (.ref u0), (.double (0 : UInt64))])) rfl rfl (hb hby d2_30)
  have hi3 := inb_of (j := (3 : Int32)) Sa1 ⟨by decide, by decide⟩
  have st3 := X0.daload hx (j := (3 : Int32)) (v := (.double d3)) (by rw [e0]; exact Ar1.1) (State.isArrayOf_alike hZ.alike Ar1.2.1) Ar1.2.2 hi3 (Has.at Ha1 hi3 rfl) (g := (mkF m 38 #[.val (.ref u0), .val (.int (2 : Int32)), .val (.double (0 : UInt64)), .second, .val (.int (0 : Int32)), .val (.int (1 : Int32))] [(.int (3 : Int32)), (.ref u0), (.double d0), (.double (0 : UInt64))])) rfl rfl (hb hby d2_38)
  obtain ⟨fv4, fe4⟩ : ∃ z, z = FP.dmul d0 d3 := ⟨_, rfl⟩
  have di4 : DI (x0 * x3) 1073741824 fv4 := DI.mul D0 D3 fe4 (by decide)
  have hi5 := inb_of (j := (2 : Int32)) Sa1 ⟨by decide, by decide⟩
  have st5 := X0.daload hx (j := (2 : Int32)) (v := (.double d2)) (by rw [e0]; exact Ar1.1) (State.isArrayOf_alike hZ.alike Ar1.2.1) Ar1.2.2 hi5 (Has.at Ha1 hi5 rfl) (g := (mkF m 45 #[.val (.ref u0), .val (.int (2 : Int32)), .val (.double (0 : UInt64)), .second, .val (.int (0 : Int32)), .val (.int (1 : Int32))] [(.int (2 : Int32)), (.ref u0), (.double fv4), (.double (0 : UInt64))])) rfl rfl (hb hby d2_45)
  have hi6 := inb_of (j := (1 : Int32)) Sa1 ⟨by decide, by decide⟩
  have st6 := X0.daload hx (j := (1 : Int32)) (v := (.double d1)) (by rw [e0]; exact Ar1.1) (State.isArrayOf_alike hZ.alike Ar1.2.1) Ar1.2.2 hi6 (Has.at Ha1 hi6 rfl) (g := (mkF m 53 #[.val (.ref u0), .val (.int (2 : Int32)), .val (.double (0 : UInt64)), .second, .val (.int (0 : Int32)), .val (.int (1 : Int32))] [(.int (1 : Int32)), (.ref u0), (.double d2), (.double fv4), (.double (0 : UInt64))])) rfl rfl (hb hby d2_53)
  obtain ⟨fv7, fe7⟩ : ∃ z, z = FP.dmul d2 d1 := ⟨_, rfl⟩
  have di7 : DI (x2 * x1) 1073741824 fv7 := DI.mul D2 D1 fe7 (by decide)
  obtain ⟨fv8, fe8⟩ : ∃ z, z = FP.dsub fv4 fv7 := ⟨_, rfl⟩
  have di8 : DI ((x0 * x3) - (x2 * x1)) 2147483648 fv8 := DI.sub di4 di7 fe8 (by decide)
  obtain ⟨fv9, fe9⟩ : ∃ z, z = FP.dadd (0 : UInt64) fv8 := ⟨_, rfl⟩
  have di9 : DI ((0 : Int) + ((x0 * x3) - (x2 * x1))) 2147483648 fv9 := DI.add DI.zero di8 fe9 (by decide)
  have hi10 := inb_of (j := (2 : Int32)) Sa1 ⟨by decide, by decide⟩
  have st10 := X0.daload hx (j := (2 : Int32)) (v := (.double d2)) (by rw [e0]; exact Ar1.1) (State.isArrayOf_alike hZ.alike Ar1.2.1) Ar1.2.2 hi10 (Has.at Ha1 hi10 rfl) (g := (mkF m 30 #[.val (.ref u0), .val (.int (2 : Int32)), .val (.double fv9), .second, .val (.int (1 : Int32)), .val (.int (0 : Int32))] [(.int (2 : Int32)), (.ref u0), (.double fv9)])) rfl rfl (hb hby d2_30)
  have hi11 := inb_of (j := (1 : Int32)) Sa1 ⟨by decide, by decide⟩
  have st11 := X0.daload hx (j := (1 : Int32)) (v := (.double d1)) (by rw [e0]; exact Ar1.1) (State.isArrayOf_alike hZ.alike Ar1.2.1) Ar1.2.2 hi11 (Has.at Ha1 hi11 rfl) (g := (mkF m 38 #[.val (.ref u0), .val (.int (2 : Int32)), .val (.double fv9), .second, .val (.int (1 : Int32)), .val (.int (0 : Int32))] [(.int (1 : Int32)), (.ref u0), (.double d2), (.double fv9)])) rfl rfl (hb hby d2_38)
  obtain ⟨fv12, fe12⟩ : ∃ z, z = FP.dmul d2 d1 := ⟨_, rfl⟩
  have di12 : DI (x2 * x1) 1073741824 fv12 := DI.mul D2 D1 fe12 (by decide)
  have hi13 := inb_of (j := (0 : Int32)) Sa1 ⟨by decide, by decide⟩
  have st13 := X0.daload hx (j := (0 : Int32)) (v := (.double d0)) (by rw [e0]; exact Ar1.1) (State.isArrayOf_alike hZ.alike Ar1.2.1) Ar1.2.2 hi13 (Has.at Ha1 hi13 rfl) (g := (mkF m 45 #[.val (.ref u0), .val (.int (2 : Int32)), .val (.double fv9), .second, .val (.int (1 : Int32)), .val (.int (0 : Int32))] [(.int (0 : Int32)), (.ref u0), (.double fv12), (.double fv9)])) rfl rfl (hb hby d2_45)
  have hi14 := inb_of (j := (3 : Int32)) Sa1 ⟨by decide, by decide⟩
  have st14 := X0.daload hx (j := (3 : Int32)) (v := (.double d3)) (by rw [e0]; exact Ar1.1) (State.isArrayOf_alike hZ.alike Ar1.2.1) Ar1.2.2 hi14 (Has.at Ha1 hi14 rfl) (g := (mkF m 53 #[.val (.ref u0), .val (.int (2 : Int32)), .val (.double fv9), .second, .val (.int (1 : Int32)), .val (.int (0 : Int32))] [(.int (3 : Int32)), (.ref u0), (.double d0), (.double fv12), (.double fv9)])) rfl rfl (hb hby d2_53)
  obtain ⟨fv15, fe15⟩ : ∃ z, z = FP.dmul d0 d3 := ⟨_, rfl⟩
  have di15 : DI (x0 * x3) 1073741824 fv15 := DI.mul D0 D3 fe15 (by decide)
  obtain ⟨fv16, fe16⟩ : ∃ z, z = FP.dsub fv12 fv15 := ⟨_, rfl⟩
  have di16 : DI ((x2 * x1) - (x0 * x3)) 2147483648 fv16 := DI.sub di12 di15 fe16 (by decide)
  obtain ⟨fv17, fe17⟩ : ∃ z, z = FP.dadd fv9 fv16 := ⟨_, rfl⟩
  have di17 : DI (((0 : Int) + ((x0 * x3) - (x2 * x1))) + ((x2 * x1) - (x0 * x3))) 4294967296 fv17 := DI.add di9 di16 fe17 (by decide)
  obtain ⟨cv18, ce18⟩ : ∃ z, z = cmpValue (FP.dcmp fv17 (0 : UInt64)) .l := ⟨_, rfl⟩
  obtain ⟨fs, hr, hrun, hended, hW, hsame⟩ := X0.leave (v := some (.ref u0)) (fun h => by rw [Bd.returns] at h; cases h)
  refine ⟨_, _, pre0 _ ?_, hrun, hended, _, _, rfl, ?_, ⟨_, rfl⟩, hW, hsame.mono (by decide) (by decide)⟩
  · show Steps p.tables e below (s₁.setTop (mkF m 0 #[.val (.ref u0), .unset, .unset, .unset, .unset, .unset] [])) _
    refine XS.aloadN X0.here hx rfl (hb hby d2_0) rfl rfl ?_
    refine st1 _ ?_
    show Steps p.tables e below (s₁.setTop (mkF m 2 #[.val (.ref u0), .unset, .unset, .unset, .unset, .unset] [(.int (4 : Int32))])) _
    refine XS.iconst X0.here hx rfl (hb hby d2_2) ?_
    show Steps p.tables e below (s₁.setTop (mkF m 3 #[.val (.ref u0), .unset, .unset, .unset, .unset, .unset] [(.int (2 : Int32)), (.int (4 : Int32))])) _
    refine XS.idiv X0.here hx rfl (hb hby d2_3) rfl (by decide) ?_
    show Steps p.tables e below (s₁.setTop (mkF m 4 #[.val (.ref u0), .unset, .unset, .unset, .unset, .unset] [(.int (2 : Int32))])) _
    refine XS.istoreN X0.here hx rfl (hb hby d2_4) rfl (l' := #[.val (.ref u0), .val (.int (2 : Int32)), .unset, .unset, .unset, .unset]) rfl ?_
    refine XS.dconst0 X0.here hx rfl (hb hby d2_5) (v := 0) (by decide +kernel) ?_
    refine XS.dstoreN X0.here hx rfl (hb hby d2_6) rfl (l' := #[.val (.ref u0), .val (.int (2 : Int32)), .val (.double (0 : UInt64)), .second, .unset, .unset]) rfl ?_
    refine XS.iconst X0.here hx rfl (hb hby d2_7) ?_
    refine XS.istore X0.here hx rfl (hb hby d2_8) rfl (l' := #[.val (.ref u0), .val (.int (2 : Int32)), .val (.double (0 : UInt64)), .second, .val (.int (0 : Int32)), .unset]) rfl ?_
    refine XS.iload X0.here hx rfl (hb hby d2_10) rfl ?_
    refine XS.iloadN X0.here hx rfl (hb hby d2_12) rfl ?_
    refine XS.icmpNo X0.here hx rfl (hb hby d2_13) rfl (tlt (by decide)).2.1 ?_
    refine XS.iload X0.here hx rfl (hb hby d2_16) rfl ?_
    refine XS.iconst X0.here hx rfl (hb hby d2_18) ?_
    show Steps p.tables e below (s₁.setTop (mkF m 19 #[.val (.ref u0), .val (.int (2 : Int32)), .val (.double (0 : UInt64)), .second, .val (.int (0 : Int32)), .unset] [(.int (1 : Int32)), (.int (0 : Int32))])) _
    refine XS.iadd X0.here hx rfl (hb hby d2_19) rfl ?_
    show Steps p.tables e below (s₁.setTop (mkF m 20 #[.val (.ref u0), .val (.int (2 : Int32)), .val (.double (0 : UInt64)), .second, .val (.int (0 : Int32)), .unset] [(.int (1 : Int32))])) _
    refine XS.iloadN X0.here hx rfl (hb hby d2_20) rfl ?_
    show Steps p.tables e below (s₁.setTop (mkF m 21 #[.val (.ref u0), .val (.int (2 : Int32)), .val (.double (0 : UInt64)), .second, .val (.int (0 : Int32)), .unset] [(.int (2 : Int32)), (.int (1 : Int32))])) _
    refine iremM X0 hx rfl (hb hby d2_21) rfl (by decide) ?_
    show Steps p.tables e below (s₁.setTop (mkF m 22 #[.val (.ref u0), .val (.int (2 : Int32)), .val (.double (0 : UInt64)), .second, .val (.int (0 : Int32)), .unset] [(.int (1 : Int32))])) _
    refine XS.istore X0.here hx rfl (hb hby d2_22) rfl (l' := #[.val (.ref u0), .val (.int (2 : Int32)), .val (.double (0 : UInt64)), .second, .val (.int (0 : Int32)), .val (.int (1 : Int32))]) rfl ?_
    refine XS.dloadN X0.here hx rfl (hb hby d2_24) rfl ?_
    refine XS.aloadN X0.here hx rfl (hb hby d2_25) rfl rfl ?_
    refine XS.iconst X0.here hx rfl (hb hby d2_26) ?_
    refine XS.iload X0.here hx rfl (hb hby d2_27) rfl ?_
    show Steps p.tables e below (s₁.setTop (mkF m 29 #[.val (.ref u0), .val (.int (2 : Int32)), .val (.double (0 : UInt64)), .second, .val (.int (0 : Int32)), .val (.int (1 : Int32))] [(.int (0 : Int32)), (.int (2 : Int32)), (.ref u0), (.double (0 : UInt64))])) _
    refine XS.imul X0.here hx rfl (hb hby d2_29) rfl ?_
    refine st2 _ ?_
    show Steps p.tables e below (s₁.setTop (mkF m 31 #[.val (.ref u0), .val (.int (2 : Int32)), .val (.double (0 : UInt64)), .second, .val (.int (0 : Int32)), .val (.int (1 : Int32))] [(.double d0), (.double (0 : UInt64))])) _
    refine XS.aloadN X0.here hx rfl (hb hby d2_31) rfl rfl ?_
    refine XS.iconst X0.here hx rfl (hb hby d2_32) ?_
    refine XS.iload X0.here hx rfl (hb hby d2_33) rfl ?_
    show Steps p.tables e below (s₁.setTop (mkF m 35 #[.val (.ref u0), .val (.int (2 : Int32)), .val (.double (0 : UInt64)), .second, .val (.int (0 : Int32)), .val (.int (1 : Int32))] [(.int (1 : Int32)), (.int (2 : Int32)), (.ref u0), (.double d0), (.double (0 : UInt64))])) _
    refine XS.imul X0.here hx rfl (hb hby d2_35) rfl ?_
    show Steps p.tables e below (s₁.setTop (mkF m 36 #[.val (.ref u0), .val (.int (2 : Int32)), .val (.double (0 : UInt64)), .second, .val (.int (0 : Int32)), .val (.int (1 : Int32))] [(.int (2 : Int32)), (.ref u0), (.double d0), (.double (0 : UInt64))])) _
    refine XS.iconst X0.here hx rfl (hb hby d2_36) ?_
    show Steps p.tables e below (s₁.setTop (mkF m 37 #[.val (.ref u0), .val (.int (2 : Int32)), .val (.double (0 : UInt64)), .second, .val (.int (0 : Int32)), .val (.int (1 : Int32))] [(.int (1 : Int32)), (.int (2 : Int32)), (.ref u0), (.double d0), (.double (0 : UInt64))])) _
    refine XS.iadd X0.here hx rfl (hb hby d2_37) rfl ?_
    refine st3 _ ?_
    show Steps p.tables e below (s₁.setTop (mkF m 39 #[.val (.ref u0), .val (.int (2 : Int32)), .val (.double (0 : UInt64)), .second, .val (.int (0 : Int32)), .val (.int (1 : Int32))] [(.double d3), (.double d0), (.double (0 : UInt64))])) _
    refine XS.dmulS X0.here hx rfl (hb hby d2_39) rfl (v := fv4) (by rw [← fe4]; exact di4.nn) fe4.symm ?_
    refine XS.aloadN X0.here hx rfl (hb hby d2_40) rfl rfl ?_
    refine XS.iconst X0.here hx rfl (hb hby d2_41) ?_
    refine XS.iload X0.here hx rfl (hb hby d2_42) rfl ?_
    show Steps p.tables e below (s₁.setTop (mkF m 44 #[.val (.ref u0), .val (.int (2 : Int32)), .val (.double (0 : UInt64)), .second, .val (.int (0 : Int32)), .val (.int (1 : Int32))] [(.int (1 : Int32)), (.int (2 : Int32)), (.ref u0), (.double fv4), (.double (0 : UInt64))])) _
    refine XS.imul X0.here hx rfl (hb hby d2_44) rfl ?_
    refine st5 _ ?_
    show Steps p.tables e below (s₁.setTop (mkF m 46 #[.val (.ref u0), .val (.int (2 : Int32)), .val (.double (0 : UInt64)), .second, .val (.int (0 : Int32)), .val (.int (1 : Int32))] [(.double d2), (.double fv4), (.double (0 : UInt64))])) _
    refine XS.aloadN X0.here hx rfl (hb hby d2_46) rfl rfl ?_
    refine XS.iconst X0.here hx rfl (hb hby d2_47) ?_
    refine XS.iload X0.here hx rfl (hb hby d2_48) rfl ?_
    show Steps p.tables e below (s₁.setTop (mkF m 50 #[.val (.ref u0), .val (.int (2 : Int32)), .val (.double (0 : UInt64)), .second, .val (.int (0 : Int32)), .val (.int (1 : Int32))] [(.int (0 : Int32)), (.int (2 : Int32)), (.ref u0), (.double d2), (.double fv4), (.double (0 : UInt64))])) _
    refine XS.imul X0.here hx rfl (hb hby d2_50) rfl ?_
    show Steps p.tables e below (s₁.setTop (mkF m 51 #[.val (.ref u0), .val (.int (2 : Int32)), .val (.double (0 : UInt64)), .second, .val (.int (0 : Int32)), .val (.int (1 : Int32))] [(.int (0 : Int32)), (.ref u0), (.double d2), (.double fv4), (.double (0 : UInt64))])) _
    refine XS.iconst X0.here hx rfl (hb hby d2_51) ?_
    show Steps p.tables e below (s₁.setTop (mkF m 52 #[.val (.ref u0), .val (.int (2 : Int32)), .val (.double (0 : UInt64)), .second, .val (.int (0 : Int32)), .val (.int (1 : Int32))] [(.int (1 : Int32)), (.int (0 : Int32)), (.ref u0), (.double d2), (.double fv4), (.double (0 : UInt64))])) _
    refine XS.iadd X0.here hx rfl (hb hby d2_52) rfl ?_
    refine st6 _ ?_
    show Steps p.tables e below (s₁.setTop (mkF m 54 #[.val (.ref u0), .val (.int (2 : Int32)), .val (.double (0 : UInt64)), .second, .val (.int (0 : Int32)), .val (.int (1 : Int32))] [(.double d1), (.double d2), (.double fv4), (.double (0 : UInt64))])) _
    refine XS.dmulS X0.here hx rfl (hb hby d2_54) rfl (v := fv7) (by rw [← fe7]; exact di7.nn) fe7.symm ?_
    refine XS.dsubS X0.here hx rfl (hb hby d2_55) rfl (v := fv8) (by rw [← fe8]; exact di8.nn) fe8.symm ?_
    refine XS.daddS X0.here hx rfl (hb hby d2_56) rfl (v := fv9) (by rw [← fe9]; exact di9.nn) fe9.symm ?_
    refine XS.dstoreN X0.here hx rfl (hb hby d2_57) rfl (l' := #[.val (.ref u0), .val (.int (2 : Int32)), .val (.double fv9), .second, .val (.int (0 : Int32)), .val (.int (1 : Int32))]) rfl ?_
    show Steps p.tables e below (s₁.setTop (mkF m 58 #[.val (.ref u0), .val (.int (2 : Int32)), .val (.double fv9), .second, .val (.int (0 : Int32)), .val (.int (1 : Int32))] [])) _
    refine XS.iinc X0.here hx rfl (hb hby d2_58) rfl (l' := #[.val (.ref u0), .val (.int (2 : Int32)), .val (.double fv9), .second, .val (.int (1 : Int32)), .val (.int (1 : Int32))]) rfl ?_
    show Steps p.tables e below (s₁.setTop (mkF m 61 #[.val (.ref u0), .val (.int (2 : Int32)), .val (.double fv9), .second, .val (.int (1 : Int32)), .val (.int (1 : Int32))] [])) _
    refine XS.goto X0.here hx rfl (pc0 := 61) (pc' := 10) rfl (hb hby d2_61) (by decide) (by decide) ?_
    refine XS.iload X0.here hx rfl (hb hby d2_10) rfl ?_
    refine XS.iloadN X0.here hx rfl (hb hby d2_12) rfl ?_
    refine XS.icmpNo X0.here hx rfl (hb hby d2_13) rfl (tlt (by decide)).2.1 ?_
    refine XS.iload X0.here hx rfl (hb hby d2_16) rfl ?_
    refine XS.iconst X0.here hx rfl (hb hby d2_18) ?_
    show Steps p.tables e below (s₁.setTop (mkF m 19 #[.val (.ref u0), .val (.int (2 : Int32)), .val (.double fv9), .second, .val (.int (1 : Int32)), .val (.int (1 : Int32))] [(.int (1 : Int32)), (.int (1 : Int32))])) _
    refine XS.iadd X0.here hx rfl (hb hby d2_19) rfl ?_
    show Steps p.tables e below (s₁.setTop (mkF m 20 #[.val (.ref u0), .val (.int (2 : Int32)), .val (.double fv9), .second, .val (.int (1 : Int32)), .val (.int (1 : Int32))] [(.int (2 : Int32))])) _
    refine XS.iloadN X0.here hx rfl (hb hby d2_20) rfl ?_
    show Steps p.tables e below (s₁.setTop (mkF m 21 #[.val (.ref u0), .val (.int (2 : Int32)), .val (.double fv9), .second, .val (.int (1 : Int32)), .val (.int (1 : Int32))] [(.int (2 : Int32)), (.int (2 : Int32))])) _
    refine iremM X0 hx rfl (hb hby d2_21) rfl (by decide) ?_
    show Steps p.tables e below (s₁.setTop (mkF m 22 #[.val (.ref u0), .val (.int (2 : Int32)), .val (.double fv9), .second, .val (.int (1 : Int32)), .val (.int (1 : Int32))] [(.int (0 : Int32))])) _
    refine XS.istore X0.here hx rfl (hb hby d2_22) rfl (l' := #[.val (.ref u0), .val (.int (2 : Int32)), .val (.double fv9), .second, .val (.int (1 : Int32)), .val (.int (0 : Int32))]) rfl ?_
    refine XS.dloadN X0.here hx rfl (hb hby d2_24) rfl ?_
    refine XS.aloadN X0.here hx rfl (hb hby d2_25) rfl rfl ?_
    refine XS.iconst X0.here hx rfl (hb hby d2_26) ?_
    refine XS.iload X0.here hx rfl (hb hby d2_27) rfl ?_
    show Steps p.tables e below (s₁.setTop (mkF m 29 #[.val (.ref u0), .val (.int (2 : Int32)), .val (.double fv9), .second, .val (.int (1 : Int32)), .val (.int (0 : Int32))] [(.int (1 : Int32)), (.int (2 : Int32)), (.ref u0), (.double fv9)])) _
    refine XS.imul X0.here hx rfl (hb hby d2_29) rfl ?_
    refine st10 _ ?_
    show Steps p.tables e below (s₁.setTop (mkF m 31 #[.val (.ref u0), .val (.int (2 : Int32)), .val (.double fv9), .second, .val (.int (1 : Int32)), .val (.int (0 : Int32))] [(.double d2), (.double fv9)])) _
    refine XS.aloadN X0.here hx rfl (hb hby d2_31) rfl rfl ?_
    refine XS.iconst X0.here hx rfl (hb hby d2_32) ?_
    refine XS.iload X0.here hx rfl (hb hby d2_33) rfl ?_
    show Steps p.tables e below (s₁.setTop (mkF m 35 #[.val (.ref u0), .val (.int (2 : Int32)), .val (.double fv9), .second, .val (.int (1 : Int32)), .val (.int (0 : Int32))] [(.int (0 : Int32)), (.int (2 : Int32)), (.ref u0), (.double d2), (.double fv9)])) _
    refine XS.imul X0.here hx rfl (hb hby d2_35) rfl ?_
    show Steps p.tables e below (s₁.setTop (mkF m 36 #[.val (.ref u0), .val (.int (2 : Int32)), .val (.double fv9), .second, .val (.int (1 : Int32)), .val (.int (0 : Int32))] [(.int (0 : Int32)), (.ref u0), (.double d2), (.double fv9)])) _
    refine XS.iconst X0.here hx rfl (hb hby d2_36) ?_
    show Steps p.tables e below (s₁.setTop (mkF m 37 #[.val (.ref u0), .val (.int (2 : Int32)), .val (.double fv9), .second, .val (.int (1 : Int32)), .val (.int (0 : Int32))] [(.int (1 : Int32)), (.int (0 : Int32)), (.ref u0), (.double d2), (.double fv9)])) _
    refine XS.iadd X0.here hx rfl (hb hby d2_37) rfl ?_
    refine st11 _ ?_
    show Steps p.tables e below (s₁.setTop (mkF m 39 #[.val (.ref u0), .val (.int (2 : Int32)), .val (.double fv9), .second, .val (.int (1 : Int32)), .val (.int (0 : Int32))] [(.double d1), (.double d2), (.double fv9)])) _
    refine XS.dmulS X0.here hx rfl (hb hby d2_39) rfl (v := fv12) (by rw [← fe12]; exact di12.nn) fe12.symm ?_
    refine XS.aloadN X0.here hx rfl (hb hby d2_40) rfl rfl ?_
    refine XS.iconst X0.here hx rfl (hb hby d2_41) ?_
    refine XS.iload X0.here hx rfl (hb hby d2_42) rfl ?_
    show Steps p.tables e below (s₁.setTop (mkF m 44 #[.val (.ref u0), .val (.int (2 : Int32)), .val (.double fv9), .second, .val (.int (1 : Int32)), .val (.int (0 : Int32))] [(.int (0 : Int32)), (.int (2 : Int32)), (.ref u0), (.double fv12), (.double fv9)])) _
    refine XS.imul X0.here hx rfl (hb hby d2_44) rfl ?_
    refine st13 _ ?_
    show Steps p.tables e below (s₁.setTop (mkF m 46 #[.val (.ref u0), .val (.int (2 : Int32)), .val (.double fv9), .second, .val (.int (1 : Int32)), .val (.int (0 : Int32))] [(.double d0), (.double fv12), (.double fv9)])) _
    refine XS.aloadN X0.here hx rfl (hb hby d2_46) rfl rfl ?_
    refine XS.iconst X0.here hx rfl (hb hby d2_47) ?_
    refine XS.iload X0.here hx rfl (hb hby d2_48) rfl ?_
    show Steps p.tables e below (s₁.setTop (mkF m 50 #[.val (.ref u0), .val (.int (2 : Int32)), .val (.double fv9), .second, .val (.int (1 : Int32)), .val (.int (0 : Int32))] [(.int (1 : Int32)), (.int (2 : Int32)), (.ref u0), (.double d0), (.double fv12), (.double fv9)])) _
    refine XS.imul X0.here hx rfl (hb hby d2_50) rfl ?_
    show Steps p.tables e below (s₁.setTop (mkF m 51 #[.val (.ref u0), .val (.int (2 : Int32)), .val (.double fv9), .second, .val (.int (1 : Int32)), .val (.int (0 : Int32))] [(.int (2 : Int32)), (.ref u0), (.double d0), (.double fv12), (.double fv9)])) _
    refine XS.iconst X0.here hx rfl (hb hby d2_51) ?_
    show Steps p.tables e below (s₁.setTop (mkF m 52 #[.val (.ref u0), .val (.int (2 : Int32)), .val (.double fv9), .second, .val (.int (1 : Int32)), .val (.int (0 : Int32))] [(.int (1 : Int32)), (.int (2 : Int32)), (.ref u0), (.double d0), (.double fv12), (.double fv9)])) _
    refine XS.iadd X0.here hx rfl (hb hby d2_52) rfl ?_
    refine st14 _ ?_
    show Steps p.tables e below (s₁.setTop (mkF m 54 #[.val (.ref u0), .val (.int (2 : Int32)), .val (.double fv9), .second, .val (.int (1 : Int32)), .val (.int (0 : Int32))] [(.double d3), (.double d0), (.double fv12), (.double fv9)])) _
    refine XS.dmulS X0.here hx rfl (hb hby d2_54) rfl (v := fv15) (by rw [← fe15]; exact di15.nn) fe15.symm ?_
    refine XS.dsubS X0.here hx rfl (hb hby d2_55) rfl (v := fv16) (by rw [← fe16]; exact di16.nn) fe16.symm ?_
    refine XS.daddS X0.here hx rfl (hb hby d2_56) rfl (v := fv17) (by rw [← fe17]; exact di17.nn) fe17.symm ?_
    refine XS.dstoreN X0.here hx rfl (hb hby d2_57) rfl (l' := #[.val (.ref u0), .val (.int (2 : Int32)), .val (.double fv17), .second, .val (.int (1 : Int32)), .val (.int (0 : Int32))]) rfl ?_
    show Steps p.tables e below (s₁.setTop (mkF m 58 #[.val (.ref u0), .val (.int (2 : Int32)), .val (.double fv17), .second, .val (.int (1 : Int32)), .val (.int (0 : Int32))] [])) _
    refine XS.iinc X0.here hx rfl (hb hby d2_58) rfl (l' := #[.val (.ref u0), .val (.int (2 : Int32)), .val (.double fv17), .second, .val (.int (2 : Int32)), .val (.int (0 : Int32))]) rfl ?_
    show Steps p.tables e below (s₁.setTop (mkF m 61 #[.val (.ref u0), .val (.int (2 : Int32)), .val (.double fv17), .second, .val (.int (2 : Int32)), .val (.int (0 : Int32))] [])) _
    refine XS.goto X0.here hx rfl (pc0 := 61) (pc' := 10) rfl (hb hby d2_61) (by decide) (by decide) ?_
    refine XS.iload X0.here hx rfl (hb hby d2_10) rfl ?_
    refine XS.iloadN X0.here hx rfl (hb hby d2_12) rfl ?_
    refine XS.icmpYes X0.here hx rfl (pc0 := 13) (pc' := 64) rfl (hb hby d2_13) rfl (flt (by decide)).2.1 (by decide) (by decide) ?_
    refine XS.dloadN X0.here hx rfl (hb hby d2_64) rfl ?_
    refine XS.dconst0 X0.here hx rfl (hb hby d2_65) (v := 0) (by decide +kernel) ?_
    refine XS.dcmpS X0.here hx rfl (hb hby d2_66) rfl (v := cv18) ce18.symm ?_
    refine XS.ifNo X0.here hx rfl (hb hby d2_67) rfl ((if0 _ _).trans (flt (by rw [ce18]; exact fun q => hA ((DI.cmp di17).mp q))).1) ?_
    refine XS.aloadN X0.here hx rfl (hb hby d2_70) rfl rfl ?_
    show Steps p.tables e below (s₁.setTop (mkF m 71 #[.val (.ref u0), .val (.int (2 : Int32)), .val (.double fv17), .second, .val (.int (2 : Int32)), .val (.int (0 : Int32))] [(.ref u0)])) _
    jvm_step X0.here [X0.here.top, hx, (hb hby d2_71), X0.method', Bd.returns, Value.isRef, FieldType.isReference]
    first | (intro acts; rw [hr _ acts rfl rfl rfl]) | rw [hr _ _ rfl rfl rfl]
    exact Steps.refl _
  · show QC2 Z u0 k_u0 d0 d1 d2 d3 x0 x1 x2 x3 h0 n0 _ s₁.heap _
    rw [e0]
    exact ⟨rfl, N0, rfl⟩
theorem ef_C3 (m : MethodId) (u0 : Addr) : entryFrame m #[(.ref u0)] 6 = mkF m 0 #[.val (.ref u0), .unset, .unset, .unset, .unset, .unset] [] := by first | (simp [entryFrame, mkF, argsToLocals, Value.category]; done) | rfl
def QC3 (Z : State) (u0 : Addr) (k_u0 : ClassId) (d0 : UInt64) (d1 : UInt64) (d2 : UInt64) (d3 : UInt64) (d4 : UInt64) (d5 : UInt64) (x0 : Int) (x1 : Int) (x2 : Int) (x3 : Int) (x4 : Int) (x5 : Int) (h0 : Heap) (n0 : Nat) (v : Option Value) (h : Heap) (L : List Loc) : Prop := v = some (.ref u0) ∧ Fr n0 L ∧ h = h0
set_option maxRecDepth 65536 in
set_option maxHeartbeats 40000000 in
theorem rmC3 (l : Launch) (Z : State) (a0 : Array Value) (hw : ∀ d ∈ tables_1, d.before a0 Z = true) (ws : List Jvm.Cond) (u0 : Addr) (k_u0 : ClassId) (d0 : UInt64) (d1 : UInt64) (d2 : UInt64) (d3 : UInt64) (d4 : UInt64) (d5 : UInt64) (x0 : Int) (x1 : Int) (x2 : Int) (x3 : Int) (x4 : Int) (x5 : Int) (h0 : Heap) (n0 : Nat) (Z0 : n0 ≤ h0.size) (V_u0 : Arv Z h0 u0 k_u0 .double (6 : Int32) [(.double d0), (.double d1), (.double d2), (.double d3), (.double d4), (.double d5)] (.double (0 : UInt64))) (D0 : DI x0 32768 d0) (D1 : DI x1 32768 d1) (D2 : DI x2 32768 d2) (D3 : DI x3 32768 d3) (D4 : DI x4 32768 d4) (D5 : DI x5 32768 d5) (hA : ¬ (((((0 : Int) + ((x0 * x3) - (x2 * x1))) + ((x2 * x5) - (x4 * x3))) + ((x4 * x1) - (x0 * x5))) < 0)) :
    MetFree l (⟨"com/example/decorum/decorum/graphics/Rasterizer", "clockwise", "([D)[D"⟩ : MethodName) (head1 (Jvm.Cond.code (⟨"com/example/decorum/decorum/graphics/Rasterizer", "clockwise", "([D)[D"⟩ : MethodName) prog_81_method_4_code 6 (some (.array .double)) :: ws) ({ frames := 0, cells := 0, slots := 0, locals := 0 } : Room)) (fun a U => a = #[(.ref u0)] ∧ Z.Warmed39 U.vm ∧ U.heap = h0) (fun _ _ _ _ _ => True) (fun _ U o U' => ∃ v L, o = .returned v ∧ QC3 Z u0 k_u0 d0 d1 d2 d3 d4 d5 x0 x1 x2 x3 x4 x5 h0 n0 v U'.heap L ∧ FrameEnd U o U' L ({ frames := 0, cells := 0, slots := 0, locals := 0 } : Room).cells ({ frames := 0, cells := 0, slots := 0, locals := 0 } : Room).slots) := by
  refine MetFree.of_bodySF (plainFor_of_name pn_com_example_decorum_decorum_graphics_Rasterizer) hisR ?_
  intro p e s m args below meth c s₁ Bd hml0 hP hK
  obtain ⟨rfl, hZ, hh⟩ := hP
  have hx := Bd.exec
  have hby := Bd.bytes
  have hml : c.maxLocals = 6 := hml0
  have hown : s.vm.findClass "com/example/decorum/decorum/graphics/Rasterizer" = some m.cls := findClass_of_methodNamed Bd.named
  have hnm := (name_of_methodNamed Bd.named Bd.method).1
  have X0 : Stand p l e ({ frames := 0, cells := 0, slots := 0, locals := 0 } : Room) s m #[(.ref u0)] below meth c s₁ [] 0 0 := Stand.of_body Bd
  have e0 : s₁.heap = h0 := by rw [← hh, Bd.state]; rfl
  have N0 := Fr.nil n0
  have pre0 : ∀ t, Steps p.tables e below (s₁.setTop (mkF m 0 #[.val (.ref u0), .unset, .unset, .unset, .unset, .unset] [])) t → Steps p.tables e below (s₁.setTop (entryFrame m #[(.ref u0)] 6)) t := fun t k => castTop (ef_C3 m u0) k
  obtain ⟨cl1, Ar1, qa1, Sa1, Na1, Ha1, Ga1⟩ := id V_u0
  have st1 := X0.arraylength hx (by rw [e0]; exact Ar1.1) (State.isArrayOf_alike hZ.alike Ar1.2.1) (g := (mkF m 1 #[.val (.ref u0), .unset, .unset, .unset, .unset, .unset] [(.ref u0)])) rfl rfl (hb hby d2_1)
  rw [len_of Sa1 Na1] at st1
  have hi2 := inb_of (j := (0 : Int32)) Sa1 ⟨by decide, by decide⟩
  have st2 := X0.daload hx (j := (0 : Int32)) (v := (.double d0)) (by rw [e0]; exact Ar1.1) (State.isArrayOf_alike hZ.alike Ar1.2.1) Ar1.2.2 hi2 (Has.at Ha1 hi2 rfl) (g := (mkF m 30 #[.val (.ref u0), .val (.int (3 : Int32)), .val (.double (0 : UInt64)), .second, .val (.int (0 : Int32)), .val (.int (1 : Int32))] [(.int (0 : Int32)), (.ref u0), (.double (0 : UInt64))])) rfl rfl (hb hby d2_30)
  have hi3 := inb_of (j := (3 : Int32)) Sa1 ⟨by decide, by decide⟩
  have st3 := X0.daload hx (j := (3 : Int32)) (v := (.double d3)) (by rw [e0]; exact Ar1.1) (State.isArrayOf_alike hZ.alike Ar1.2.1) Ar1.2.2 hi3 (Has.at Ha1 hi3 rfl) (g := (mkF m 38 #[.val (.ref u0), .val (.int (3 : Int32)), .val (.double (0 : UInt64)), .second, .val (.int (0 : Int32)), .val (.int (1 : Int32))] [(.int (3 : Int32)), (.ref u0), (.double d0), (.double (0 : UInt64))])) rfl rfl (hb hby d2_38)
  obtain ⟨fv4, fe4⟩ : ∃ z, z = FP.dmul d0 d3 := ⟨_, rfl⟩
  have di4 : DI (x0 * x3) 1073741824 fv4 := DI.mul D0 D3 fe4 (by decide)
  have hi5 := inb_of (j := (2 : Int32)) Sa1 ⟨by decide, by decide⟩
  have st5 := X0.daload hx (j := (2 : Int32)) (v := (.double d2)) (by rw [e0]; exact Ar1.1) (State.isArrayOf_alike hZ.alike Ar1.2.1) Ar1.2.2 hi5 (Has.at Ha1 hi5 rfl) (g := (mkF m 45 #[.val (.ref u0), .val (.int (3 : Int32)), .val (.double (0 : UInt64)), .second, .val (.int (0 : Int32)), .val (.int (1 : Int32))] [(.int (2 : Int32)), (.ref u0), (.double fv4), (.double (0 : UInt64))])) rfl rfl (hb hby d2_45)
  have hi6 := inb_of (j := (1 : Int32)) Sa1 ⟨by decide, by decide⟩
  have st6 := X0.daload hx (j := (1 : Int32)) (v := (.double d1)) (by rw [e0]; exact Ar1.1) (State.isArrayOf_alike hZ.alike Ar1.2.1) Ar1.2.2 hi6 (Has.at Ha1 hi6 rfl) (g := (mkF m 53 #[.val (.ref u0), .val (.int (3 : Int32)), .val (.double (0 : UInt64)), .second, .val (.int (0 : Int32)), .val (.int (1 : Int32))] [(.int (1 : Int32)), (.ref u0), (.double d2), (.double fv4), (.double (0 : UInt64))])) rfl rfl (hb hby d2_53)
  obtain ⟨fv7, fe7⟩ : ∃ z, z = FP.dmul d2 d1 := ⟨_, rfl⟩
  have di7 : DI (x2 * x1) 1073741824 fv7 := DI.mul D2 D1 fe7 (by decide)
  obtain ⟨fv8, fe8⟩ : ∃ z, z = FP.dsub fv4 fv7 := ⟨_, rfl⟩
  have di8 : DI ((x0 * x3) - (x2 * x1)) 2147483648 fv8 := DI.sub di4 di7 fe8 (by decide)
  obtain ⟨fv9, fe9⟩ : ∃ z, z = FP.dadd (0 : UInt64) fv8 := ⟨_, rfl⟩
  have di9 : DI ((0 : Int) + ((x0 * x3) - (x2 * x1))) 2147483648 fv9 := DI.add DI.zero di8 fe9 (by decide)
  have hi10 := inb_of (j := (2 : Int32)) Sa1 ⟨by decide, by decide⟩
  have st10 := X0.daload hx (j := (2 : Int32)) (v := (.double d2)) (by rw [e0]; exact Ar1.1) (State.isArrayOf_alike hZ.alike Ar1.2.1) Ar1.2.2 hi10 (Has.at Ha1 hi10 rfl) (g := (mkF m 30 #[.val (.ref u0), .val (.int (3 : Int32)), .val (.double fv9), .second, .val (.int (1 : Int32)), .val (.int (2 : Int32))] [(.int (2 : Int32)), (.ref u0), (.double fv9)])) rfl rfl (hb hby d2_30)
  have hi11 := inb_of (j := (5 : Int32)) Sa1 ⟨by decide, by decide⟩
  have st11 := X0.daload hx (j := (5 : Int32)) (v := (.double d5)) (by rw [e0]; exact Ar1.1) (State.isArrayOf_alike hZ.alike Ar1.2.1) Ar1.2.2 hi11 (Has.at Ha1 hi11 rfl) (g := (mkF m 38 #[.val (.ref u0), .val (.int (3 : Int32)), .val (.double fv9), .second, .val (.int (1 : Int32)), .val (.int (2 : Int32))] [(.int (5 : Int32)), (.ref u0), (.double d2), (.double fv9)])) rfl rfl (hb hby d2_38)
  obtain ⟨fv12, fe12⟩ : ∃ z, z = FP.dmul d2 d5 := ⟨_, rfl⟩
  have di12 : DI (x2 * x5) 1073741824 fv12 := DI.mul D2 D5 fe12 (by decide)
  have hi13 := inb_of (j := (4 : Int32)) Sa1 ⟨by decide, by decide⟩
  have st13 := X0.daload hx (j := (4 : Int32)) (v := (.double d4)) (by rw [e0]; exact Ar1.1) (State.isArrayOf_alike hZ.alike Ar1.2.1) Ar1.2.2 hi13 (Has.at Ha1 hi13 rfl) (g := (mkF m 45 #[.val (.ref u0), .val (.int (3 : Int32)), .val (.double fv9), .second, .val (.int (1 : Int32)), .val (.int (2 : Int32))] [(.int (4 : Int32)), (.ref u0), (.double fv12), (.double fv9)])) rfl rfl (hb hby d2_45)
  have hi14 := inb_of (j := (3 : Int32)) Sa1 ⟨by decide, by decide⟩
  have st14 := X0.daload hx (j := (3 : Int32)) (v := (.double d3)) (by rw [e0]; exact Ar1.1) (State.isArrayOf_alike hZ.alike Ar1.2.1) Ar1.2.2 hi14 (Has.at Ha1 hi14 rfl) (g := (mkF m 53 #[.val (.ref u0), .val (.int (3 : Int32)), .val (.double fv9), .second, .val (.int (1 : Int32)), .val (.int (2 : Int32))] [(.int (3 : Int32)), (.ref u0), (.double d4), (.double fv12), (.double fv9)])) rfl rfl (hb hby d2_53)
  obtain ⟨fv15, fe15⟩ : ∃ z, z = FP.dmul d4 d3 := ⟨_, rfl⟩
  have di15 : DI (x4 * x3) 1073741824 fv15 := DI.mul D4 D3 fe15 (by decide)
  obtain ⟨fv16, fe16⟩ : ∃ z, z = FP.dsub fv12 fv15 := ⟨_, rfl⟩
  have di16 : DI ((x2 * x5) - (x4 * x3)) 2147483648 fv16 := DI.sub di12 di15 fe16 (by decide)
  obtain ⟨fv17, fe17⟩ : ∃ z, z = FP.dadd fv9 fv16 := ⟨_, rfl⟩
  have di17 : DI (((0 : Int) + ((x0 * x3) - (x2 * x1))) + ((x2 * x5) - (x4 * x3))) 4294967296 fv17 := DI.add di9 di16 fe17 (by decide)
  have hi18 := inb_of (j := (4 : Int32)) Sa1 ⟨by decide, by decide⟩
  have st18 := X0.daload hx (j := (4 : Int32)) (v := (.double d4)) (by rw [e0]; exact Ar1.1) (State.isArrayOf_alike hZ.alike Ar1.2.1) Ar1.2.2 hi18 (Has.at Ha1 hi18 rfl) (g := (mkF m 30 #[.val (.ref u0), .val (.int (3 : Int32)), .val (.double fv17), .second, .val (.int (2 : Int32)), .val (.int (0 : Int32))] [(.int (4 : Int32)), (.ref u0), (.double fv17)])) rfl rfl (hb hby d2_30)
  have hi19 := inb_of (j := (1 : Int32)) Sa1 ⟨by decide, by decide⟩
  have st19 := X0.daload hx (j := (1 : Int32)) (v := (.double d1)) (by rw [e0]; exact Ar1.1) (State.isArrayOf_alike hZ.alike Ar1.2.1) Ar1.2.2 hi19 (Has.at Ha1 hi19 rfl) (g := (mkF m 38 #[.val (.ref u0), .val (.int (3 : Int32)), .val (.double fv17), .second, .val (.int (2 : Int32)), .val (.int (0 : Int32))] [(.int (1 : Int32)), (.ref u0), (.double d4), (.double fv17)])) rfl rfl (hb hby d2_38)
  obtain ⟨fv20, fe20⟩ : ∃ z, z = FP.dmul d4 d1 := ⟨_, rfl⟩
  have di20 : DI (x4 * x1) 1073741824 fv20 := DI.mul D4 D1 fe20 (by decide)
  have hi21 := inb_of (j := (0 : Int32)) Sa1 ⟨by decide, by decide⟩
  have st21 := X0.daload hx (j := (0 : Int32)) (v := (.double d0)) (by rw [e0]; exact Ar1.1) (State.isArrayOf_alike hZ.alike Ar1.2.1) Ar1.2.2 hi21 (Has.at Ha1 hi21 rfl) (g := (mkF m 45 #[.val (.ref u0), .val (.int (3 : Int32)), .val (.double fv17), .second, .val (.int (2 : Int32)), .val (.int (0 : Int32))] [(.int (0 : Int32)), (.ref u0), (.double fv20), (.double fv17)])) rfl rfl (hb hby d2_45)
  have hi22 := inb_of (j := (5 : Int32)) Sa1 ⟨by decide, by decide⟩
  have st22 := X0.daload hx (j := (5 : Int32)) (v := (.double d5)) (by rw [e0]; exact Ar1.1) (State.isArrayOf_alike hZ.alike Ar1.2.1) Ar1.2.2 hi22 (Has.at Ha1 hi22 rfl) (g := (mkF m 53 #[.val (.ref u0), .val (.int (3 : Int32)), .val (.double fv17), .second, .val (.int (2 : Int32)), .val (.int (0 : Int32))] [(.int (5 : Int32)), (.ref u0), (.double d0), (.double fv20), (.double fv17)])) rfl rfl (hb hby d2_53)
  obtain ⟨fv23, fe23⟩ : ∃ z, z = FP.dmul d0 d5 := ⟨_, rfl⟩
  have di23 : DI (x0 * x5) 1073741824 fv23 := DI.mul D0 D5 fe23 (by decide)
  obtain ⟨fv24, fe24⟩ : ∃ z, z = FP.dsub fv20 fv23 := ⟨_, rfl⟩
  have di24 : DI ((x4 * x1) - (x0 * x5)) 2147483648 fv24 := DI.sub di20 di23 fe24 (by decide)
  obtain ⟨fv25, fe25⟩ : ∃ z, z = FP.dadd fv17 fv24 := ⟨_, rfl⟩
  have di25 : DI ((((0 : Int) + ((x0 * x3) - (x2 * x1))) + ((x2 * x5) - (x4 * x3))) + ((x4 * x1) - (x0 * x5))) 6442450944 fv25 := DI.add di17 di24 fe25 (by decide)
  obtain ⟨cv26, ce26⟩ : ∃ z, z = cmpValue (FP.dcmp fv25 (0 : UInt64)) .l := ⟨_, rfl⟩
  obtain ⟨fs, hr, hrun, hended, hW, hsame⟩ := X0.leave (v := some (.ref u0)) (fun h => by rw [Bd.returns] at h; cases h)
  refine ⟨_, _, pre0 _ ?_, hrun, hended, _, _, rfl, ?_, ⟨_, rfl⟩, hW, hsame.mono (by decide) (by decide)⟩
  · show Steps p.tables e below (s₁.setTop (mkF m 0 #[.val (.ref u0), .unset, .unset, .unset, .unset, .unset] [])) _
    refine XS.aloadN X0.here hx rfl (hb hby d2_0) rfl rfl ?_
    refine st1 _ ?_
    show Steps p.tables e below (s₁.setTop (mkF m 2 #[.val (.ref u0), .unset, .unset, .unset, .unset, .unset] [(.int (6 : Int32))])) _
    refine XS.iconst X0.here hx rfl (hb hby d2_2) ?_
    show Steps p.tables e below (s₁.setTop (mkF m 3 #[.val (.ref u0), .unset, .unset, .unset, .unset, .unset] [(.int (2 : Int32)), (.int (6 : Int32))])) _
    refine XS.idiv X0.here hx rfl (hb hby d2_3) rfl (by decide) ?_
    show Steps p.tables e below (s₁.setTop (mkF m 4 #[.val (.ref u0), .unset, .unset, .unset, .unset, .unset] [(.int (3 : Int32))])) _
    refine XS.istoreN X0.here hx rfl (hb hby d2_4) rfl (l' := #[.val (.ref u0), .val (.int (3 : Int32)), .unset, .unset, .unset, .unset]) rfl ?_
    refine XS.dconst0 X0.here hx rfl (hb hby d2_5) (v := 0) (by decide +kernel) ?_
    refine XS.dstoreN X0.here hx rfl (hb hby d2_6) rfl (l' := #[.val (.ref u0), .val (.int (3 : Int32)), .val (.double (0 : UInt64)), .second, .unset, .unset]) rfl ?_
    refine XS.iconst X0.here hx rfl (hb hby d2_7) ?_
    refine XS.istore X0.here hx rfl (hb hby d2_8) rfl (l' := #[.val (.ref u0), .val (.int (3 : Int32)), .val (.double (0 : UInt64)), .second, .val (.int (0 : Int32)), .unset]) rfl ?_
    refine XS.iload X0.here hx rfl (hb hby d2_10) rfl ?_
    refine XS.iloadN X0.here hx rfl (hb hby d2_12) rfl ?_
    refine XS.icmpNo X0.here hx rfl (hb hby d2_13) rfl (tlt (by decide)).2.1 ?_
    refine XS.iload X0.here hx rfl (hb hby d2_16) rfl ?_
    refine XS.iconst X0.here hx rfl (hb hby d2_18) ?_
    show Steps p.tables e below (s₁.setTop (mkF m 19 #[.val (.ref u0), .val (.int (3 : Int32)), .val (.double (0 : UInt64)), .second, .val (.int (0 : Int32)), .unset] [(.int (1 : Int32)), (.int (0 : Int32))])) _
    refine XS.iadd X0.here hx rfl (hb hby d2_19) rfl ?_
    show Steps p.tables e below (s₁.setTop (mkF m 20 #[.val (.ref u0), .val (.int (3 : Int32)), .val (.double (0 : UInt64)), .second, .val (.int (0 : Int32)), .unset] [(.int (1 : Int32))])) _
    refine XS.iloadN X0.here hx rfl (hb hby d2_20) rfl ?_
    show Steps p.tables e below (s₁.setTop (mkF m 21 #[.val (.ref u0), .val (.int (3 : Int32)), .val (.double (0 : UInt64)), .second, .val (.int (0 : Int32)), .unset] [(.int (3 : Int32)), (.int (1 : Int32))])) _
    refine iremM X0 hx rfl (hb hby d2_21) rfl (by decide) ?_
    show Steps p.tables e below (s₁.setTop (mkF m 22 #[.val (.ref u0), .val (.int (3 : Int32)), .val (.double (0 : UInt64)), .second, .val (.int (0 : Int32)), .unset] [(.int (1 : Int32))])) _
    refine XS.istore X0.here hx rfl (hb hby d2_22) rfl (l' := #[.val (.ref u0), .val (.int (3 : Int32)), .val (.double (0 : UInt64)), .second, .val (.int (0 : Int32)), .val (.int (1 : Int32))]) rfl ?_
    refine XS.dloadN X0.here hx rfl (hb hby d2_24) rfl ?_
    refine XS.aloadN X0.here hx rfl (hb hby d2_25) rfl rfl ?_
    refine XS.iconst X0.here hx rfl (hb hby d2_26) ?_
    refine XS.iload X0.here hx rfl (hb hby d2_27) rfl ?_
    show Steps p.tables e below (s₁.setTop (mkF m 29 #[.val (.ref u0), .val (.int (3 : Int32)), .val (.double (0 : UInt64)), .second, .val (.int (0 : Int32)), .val (.int (1 : Int32))] [(.int (0 : Int32)), (.int (2 : Int32)), (.ref u0), (.double (0 : UInt64))])) _
    refine XS.imul X0.here hx rfl (hb hby d2_29) rfl ?_
    refine st2 _ ?_
    show Steps p.tables e below (s₁.setTop (mkF m 31 #[.val (.ref u0), .val (.int (3 : Int32)), .val (.double (0 : UInt64)), .second, .val (.int (0 : Int32)), .val (.int (1 : Int32))] [(.double d0), (.double (0 : UInt64))])) _
    refine XS.aloadN X0.here hx rfl (hb hby d2_31) rfl rfl ?_
    refine XS.iconst X0.here hx rfl (hb hby d2_32) ?_
    refine XS.iload X0.here hx rfl (hb hby d2_33) rfl ?_
    show Steps p.tables e below (s₁.setTop (mkF m 35 #[.val (.ref u0), .val (.int (3 : Int32)), .val (.double (0 : UInt64)), .second, .val (.int (0 : Int32)), .val (.int (1 : Int32))] [(.int (1 : Int32)), (.int (2 : Int32)), (.ref u0), (.double d0), (.double (0 : UInt64))])) _
    refine XS.imul X0.here hx rfl (hb hby d2_35) rfl ?_
    show Steps p.tables e below (s₁.setTop (mkF m 36 #[.val (.ref u0), .val (.int (3 : Int32)), .val (.double (0 : UInt64)), .second, .val (.int (0 : Int32)), .val (.int (1 : Int32))] [(.int (2 : Int32)), (.ref u0), (.double d0), (.double (0 : UInt64))])) _
    refine XS.iconst X0.here hx rfl (hb hby d2_36) ?_
    show Steps p.tables e below (s₁.setTop (mkF m 37 #[.val (.ref u0), .val (.int (3 : Int32)), .val (.double (0 : UInt64)), .second, .val (.int (0 : Int32)), .val (.int (1 : Int32))] [(.int (1 : Int32)), (.int (2 : Int32)), (.ref u0), (.double d0), (.double (0 : UInt64))])) _
    refine XS.iadd X0.here hx rfl (hb hby d2_37) rfl ?_
    refine st3 _ ?_
    show Steps p.tables e below (s₁.setTop (mkF m 39 #[.val (.ref u0), .val (.int (3 : Int32)), .val (.double (0 : UInt64)), .second, .val (.int (0 : Int32)), .val (.int (1 : Int32))] [(.double d3), (.double d0), (.double (0 : UInt64))])) _
    refine XS.dmulS X0.here hx rfl (hb hby d2_39) rfl (v := fv4) (by rw [← fe4]; exact di4.nn) fe4.symm ?_
    refine XS.aloadN X0.here hx rfl (hb hby d2_40) rfl rfl ?_
    refine XS.iconst X0.here hx rfl (hb hby d2_41) ?_
    refine XS.iload X0.here hx rfl (hb hby d2_42) rfl ?_
    show Steps p.tables e below (s₁.setTop (mkF m 44 #[.val (.ref u0), .val (.int (3 : Int32)), .val (.double (0 : UInt64)), .second, .val (.int (0 : Int32)), .val (.int (1 : Int32))] [(.int (1 : Int32)), (.int (2 : Int32)), (.ref u0), (.double fv4), (.double (0 : UInt64))])) _
    refine XS.imul X0.here hx rfl (hb hby d2_44) rfl ?_
    refine st5 _ ?_
    show Steps p.tables e below (s₁.setTop (mkF m 46 #[.val (.ref u0), .val (.int (3 : Int32)), .val (.double (0 : UInt64)), .second, .val (.int (0 : Int32)), .val (.int (1 : Int32))] [(.double d2), (.double fv4), (.double (0 : UInt64))])) _
    refine XS.aloadN X0.here hx rfl (hb hby d2_46) rfl rfl ?_
    refine XS.iconst X0.here hx rfl (hb hby d2_47) ?_
    refine XS.iload X0.here hx rfl (hb hby d2_48) rfl ?_
    show Steps p.tables e below (s₁.setTop (mkF m 50 #[.val (.ref u0), .val (.int (3 : Int32)), .val (.double (0 : UInt64)), .second, .val (.int (0 : Int32)), .val (.int (1 : Int32))] [(.int (0 : Int32)), (.int (2 : Int32)), (.ref u0), (.double d2), (.double fv4), (.double (0 : UInt64))])) _
    refine XS.imul X0.here hx rfl (hb hby d2_50) rfl ?_
    show Steps p.tables e below (s₁.setTop (mkF m 51 #[.val (.ref u0), .val (.int (3 : Int32)), .val (.double (0 : UInt64)), .second, .val (.int (0 : Int32)), .val (.int (1 : Int32))] [(.int (0 : Int32)), (.ref u0), (.double d2), (.double fv4), (.double (0 : UInt64))])) _
    refine XS.iconst X0.here hx rfl (hb hby d2_51) ?_
    show Steps p.tables e below (s₁.setTop (mkF m 52 #[.val (.ref u0), .val (.int (3 : Int32)), .val (.double (0 : UInt64)), .second, .val (.int (0 : Int32)), .val (.int (1 : Int32))] [(.int (1 : Int32)), (.int (0 : Int32)), (.ref u0), (.double d2), (.double fv4), (.double (0 : UInt64))])) _
    refine XS.iadd X0.here hx rfl (hb hby d2_52) rfl ?_
    refine st6 _ ?_
    show Steps p.tables e below (s₁.setTop (mkF m 54 #[.val (.ref u0), .val (.int (3 : Int32)), .val (.double (0 : UInt64)), .second, .val (.int (0 : Int32)), .val (.int (1 : Int32))] [(.double d1), (.double d2), (.double fv4), (.double (0 : UInt64))])) _
    refine XS.dmulS X0.here hx rfl (hb hby d2_54) rfl (v := fv7) (by rw [← fe7]; exact di7.nn) fe7.symm ?_
    refine XS.dsubS X0.here hx rfl (hb hby d2_55) rfl (v := fv8) (by rw [← fe8]; exact di8.nn) fe8.symm ?_
    refine XS.daddS X0.here hx rfl (hb hby d2_56) rfl (v := fv9) (by rw [← fe9]; exact di9.nn) fe9.symm ?_
    refine XS.dstoreN X0.here hx rfl (hb hby d2_57) rfl (l' := #[.val (.ref u0), .val (.int (3 : Int32)), .val (.double fv9), .second, .val (.int (0 : Int32)), .val (.int (1 : Int32))]) rfl ?_
    show Steps p.tables e below (s₁.setTop (mkF m 58 #[.val (.ref u0), .val (.int (3 : Int32)), .val (.double fv9), .second, .val (.int (0 : Int32)), .val (.int (1 : Int32))] [])) _
    refine XS.iinc X0.here hx rfl (hb hby d2_58) rfl (l' := #[.val (.ref u0), .val (.int (3 : Int32)), .val (.double fv9), .second, .val (.int (1 : Int32)), .val (.int (1 : Int32))]) rfl ?_
    show Steps p.tables e below (s₁.setTop (mkF m 61 #[.val (.ref u0), .val (.int (3 : Int32)), .val (.double fv9), .second, .val (.int (1 : Int32)), .val (.int (1 : Int32))] [])) _
    refine XS.goto X0.here hx rfl (pc0 := 61) (pc' := 10) rfl (hb hby d2_61) (by decide) (by decide) ?_
    refine XS.iload X0.here hx rfl (hb hby d2_10) rfl ?_
    refine XS.iloadN X0.here hx rfl (hb hby d2_12) rfl ?_
    refine XS.icmpNo X0.here hx rfl (hb hby d2_13) rfl (tlt (by decide)).2.1 ?_
    refine XS.iload X0.here hx rfl (hb hby d2_16) rfl ?_
    refine XS.iconst X0.here hx rfl (hb hby d2_18) ?_
    show Steps p.tables e below (s₁.setTop (mkF m 19 #[.val (.ref u0), .val (.int (3 : Int32)), .val (.double fv9), .second, .val (.int (1 : Int32)), .val (.int (1 : Int32))] [(.int (1 : Int32)), (.int (1 : Int32))])) _
    refine XS.iadd X0.here hx rfl (hb hby d2_19) rfl ?_
    show Steps p.tables e below (s₁.setTop (mkF m 20 #[.val (.ref u0), .val (.int (3 : Int32)), .val (.double fv9), .second, .val (.int (1 : Int32)), .val (.int (1 : Int32))] [(.int (2 : Int32))])) _
    refine XS.iloadN X0.here hx rfl (hb hby d2_20) rfl ?_
    show Steps p.tables e below (s₁.setTop (mkF m 21 #[.val (.ref u0), .val (.int (3 : Int32)), .val (.double fv9), .second, .val (.int (1 : Int32)), .val (.int (1 : Int32))] [(.int (3 : Int32)), (.int (2 : Int32))])) _
    refine iremM X0 hx rfl (hb hby d2_21) rfl (by decide) ?_
    show Steps p.tables e below (s₁.setTop (mkF m 22 #[.val (.ref u0), .val (.int (3 : Int32)), .val (.double fv9), .second, .val (.int (1 : Int32)), .val (.int (1 : Int32))] [(.int (2 : Int32))])) _
    refine XS.istore X0.here hx rfl (hb hby d2_22) rfl (l' := #[.val (.ref u0), .val (.int (3 : Int32)), .val (.double fv9), .second, .val (.int (1 : Int32)), .val (.int (2 : Int32))]) rfl ?_
    refine XS.dloadN X0.here hx rfl (hb hby d2_24) rfl ?_
    refine XS.aloadN X0.here hx rfl (hb hby d2_25) rfl rfl ?_
    refine XS.iconst X0.here hx rfl (hb hby d2_26) ?_
    refine XS.iload X0.here hx rfl (hb hby d2_27) rfl ?_
    show Steps p.tables e below (s₁.setTop (mkF m 29 #[.val (.ref u0), .val (.int (3 : Int32)), .val (.double fv9), .second, .val (.int (1 : Int32)), .val (.int (2 : Int32))] [(.int (1 : Int32)), (.int (2 : Int32)), (.ref u0), (.double fv9)])) _
    refine XS.imul X0.here hx rfl (hb hby d2_29) rfl ?_
    refine st10 _ ?_
    show Steps p.tables e below (s₁.setTop (mkF m 31 #[.val (.ref u0), .val (.int (3 : Int32)), .val (.double fv9), .second, .val (.int (1 : Int32)), .val (.int (2 : Int32))] [(.double d2), (.double fv9)])) _
    refine XS.aloadN X0.here hx rfl (hb hby d2_31) rfl rfl ?_
    refine XS.iconst X0.here hx rfl (hb hby d2_32) ?_
    refine XS.iload X0.here hx rfl (hb hby d2_33) rfl ?_
    show Steps p.tables e below (s₁.setTop (mkF m 35 #[.val (.ref u0), .val (.int (3 : Int32)), .val (.double fv9), .second, .val (.int (1 : Int32)), .val (.int (2 : Int32))] [(.int (2 : Int32)), (.int (2 : Int32)), (.ref u0), (.double d2), (.double fv9)])) _
    refine XS.imul X0.here hx rfl (hb hby d2_35) rfl ?_
    show Steps p.tables e below (s₁.setTop (mkF m 36 #[.val (.ref u0), .val (.int (3 : Int32)), .val (.double fv9), .second, .val (.int (1 : Int32)), .val (.int (2 : Int32))] [(.int (4 : Int32)), (.ref u0), (.double d2), (.double fv9)])) _
    refine XS.iconst X0.here hx rfl (hb hby d2_36) ?_
    show Steps p.tables e below (s₁.setTop (mkF m 37 #[.val (.ref u0), .val (.int (3 : Int32)), .val (.double fv9), .second, .val (.int (1 : Int32)), .val (.int (2 : Int32))] [(.int (1 : Int32)), (.int (4 : Int32)), (.ref u0), (.double d2), (.double fv9)])) _
    refine XS.iadd X0.here hx rfl (hb hby d2_37) rfl ?_
    refine st11 _ ?_
    show Steps p.tables e below (s₁.setTop (mkF m 39 #[.val (.ref u0), .val (.int (3 : Int32)), .val (.double fv9), .second, .val (.int (1 : Int32)), .val (.int (2 : Int32))] [(.double d5), (.double d2), (.double fv9)])) _
    refine XS.dmulS X0.here hx rfl (hb hby d2_39) rfl (v := fv12) (by rw [← fe12]; exact di12.nn) fe12.symm ?_
    refine XS.aloadN X0.here hx rfl (hb hby d2_40) rfl rfl ?_
    refine XS.iconst X0.here hx rfl (hb hby d2_41) ?_
    refine XS.iload X0.here hx rfl (hb hby d2_42) rfl ?_
    show Steps p.tables e below (s₁.setTop (mkF m 44 #[.val (.ref u0), .val (.int (3 : Int32)), .val (.double fv9), .second, .val (.int (1 : Int32)), .val (.int (2 : Int32))] [(.int (2 : Int32)), (.int (2 : Int32)), (.ref u0), (.double fv12), (.double fv9)])) _
    refine XS.imul X0.here hx rfl (hb hby d2_44) rfl ?_
    refine st13 _ ?_
    show Steps p.tables e below (s₁.setTop (mkF m 46 #[.val (.ref u0), .val (.int (3 : Int32)), .val (.double fv9), .second, .val (.int (1 : Int32)), .val (.int (2 : Int32))] [(.double d4), (.double fv12), (.double fv9)])) _
    refine XS.aloadN X0.here hx rfl (hb hby d2_46) rfl rfl ?_
    refine XS.iconst X0.here hx rfl (hb hby d2_47) ?_
    refine XS.iload X0.here hx rfl (hb hby d2_48) rfl ?_
    show Steps p.tables e below (s₁.setTop (mkF m 50 #[.val (.ref u0), .val (.int (3 : Int32)), .val (.double fv9), .second, .val (.int (1 : Int32)), .val (.int (2 : Int32))] [(.int (1 : Int32)), (.int (2 : Int32)), (.ref u0), (.double d4), (.double fv12), (.double fv9)])) _
    refine XS.imul X0.here hx rfl (hb hby d2_50) rfl ?_
    show Steps p.tables e below (s₁.setTop (mkF m 51 #[.val (.ref u0), .val (.int (3 : Int32)), .val (.double fv9), .second, .val (.int (1 : Int32)), .val (.int (2 : Int32))] [(.int (2 : Int32)), (.ref u0), (.double d4), (.double fv12), (.double fv9)])) _
    refine XS.iconst X0.here hx rfl (hb hby d2_51) ?_
    show Steps p.tables e below (s₁.setTop (mkF m 52 #[.val (.ref u0), .val (.int (3 : Int32)), .val (.double fv9), .second, .val (.int (1 : Int32)), .val (.int (2 : Int32))] [(.int (1 : Int32)), (.int (2 : Int32)), (.ref u0), (.double d4), (.double fv12), (.double fv9)])) _
    refine XS.iadd X0.here hx rfl (hb hby d2_52) rfl ?_
    refine st14 _ ?_
    show Steps p.tables e below (s₁.setTop (mkF m 54 #[.val (.ref u0), .val (.int (3 : Int32)), .val (.double fv9), .second, .val (.int (1 : Int32)), .val (.int (2 : Int32))] [(.double d3), (.double d4), (.double fv12), (.double fv9)])) _
    refine XS.dmulS X0.here hx rfl (hb hby d2_54) rfl (v := fv15) (by rw [← fe15]; exact di15.nn) fe15.symm ?_
    refine XS.dsubS X0.here hx rfl (hb hby d2_55) rfl (v := fv16) (by rw [← fe16]; exact di16.nn) fe16.symm ?_
    refine XS.daddS X0.here hx rfl (hb hby d2_56) rfl (v := fv17) (by rw [← fe17]; exact di17.nn) fe17.symm ?_
    refine XS.dstoreN X0.here hx rfl (hb hby d2_57) rfl (l' := #[.val (.ref u0), .val (.int (3 : Int32)), .val (.double fv17), .second, .val (.int (1 : Int32)), .val (.int (2 : Int32))]) rfl ?_
    show Steps p.tables e below (s₁.setTop (mkF m 58 #[.val (.ref u0), .val (.int (3 : Int32)), .val (.double fv17), .second, .val (.int (1 : Int32)), .val (.int (2 : Int32))] [])) _
    refine XS.iinc X0.here hx rfl (hb hby d2_58) rfl (l' := #[.val (.ref u0), .val (.int (3 : Int32)), .val (.double fv17), .second, .val (.int (2 : Int32)), .val (.int (2 : Int32))]) rfl ?_
    show Steps p.tables e below (s₁.setTop (mkF m 61 #[.val (.ref u0), .val (.int (3 : Int32)), .val (.double fv17), .second, .val (.int (2 : Int32)), .val (.int (2 : Int32))] [])) _
    refine XS.goto X0.here hx rfl (pc0 := 61) (pc' := 10) rfl (hb hby d2_61) (by decide) (by decide) ?_
    refine XS.iload X0.here hx rfl (hb hby d2_10) rfl ?_
    refine XS.iloadN X0.here hx rfl (hb hby d2_12) rfl ?_
    refine XS.icmpNo X0.here hx rfl (hb hby d2_13) rfl (tlt (by decide)).2.1 ?_
    refine XS.iload X0.here hx rfl (hb hby d2_16) rfl ?_
    refine XS.iconst X0.here hx rfl (hb hby d2_18) ?_
    show Steps p.tables e below (s₁.setTop (mkF m 19 #[.val (.ref u0), .val (.int (3 : Int32)), .val (.double fv17), .second, .val (.int (2 : Int32)), .val (.int (2 : Int32))] [(.int (1 : Int32)), (.int (2 : Int32))])) _
    refine XS.iadd X0.here hx rfl (hb hby d2_19) rfl ?_
    show Steps p.tables e below (s₁.setTop (mkF m 20 #[.val (.ref u0), .val (.int (3 : Int32)), .val (.double fv17), .second, .val (.int (2 : Int32)), .val (.int (2 : Int32))] [(.int (3 : Int32))])) _
    refine XS.iloadN X0.here hx rfl (hb hby d2_20) rfl ?_
    show Steps p.tables e below (s₁.setTop (mkF m 21 #[.val (.ref u0), .val (.int (3 : Int32)), .val (.double fv17), .second, .val (.int (2 : Int32)), .val (.int (2 : Int32))] [(.int (3 : Int32)), (.int (3 : Int32))])) _
    refine iremM X0 hx rfl (hb hby d2_21) rfl (by decide) ?_
    show Steps p.tables e below (s₁.setTop (mkF m 22 #[.val (.ref u0), .val (.int (3 : Int32)), .val (.double fv17), .second, .val (.int (2 : Int32)), .val (.int (2 : Int32))] [(.int (0 : Int32))])) _
    refine XS.istore X0.here hx rfl (hb hby d2_22) rfl (l' := #[.val (.ref u0), .val (.int (3 : Int32)), .val (.double fv17), .second, .val (.int (2 : Int32)), .val (.int (0 : Int32))]) rfl ?_
    refine XS.dloadN X0.here hx rfl (hb hby d2_24) rfl ?_
    refine XS.aloadN X0.here hx rfl (hb hby d2_25) rfl rfl ?_
    refine XS.iconst X0.here hx rfl (hb hby d2_26) ?_
    refine XS.iload X0.here hx rfl (hb hby d2_27) rfl ?_
    show Steps p.tables e below (s₁.setTop (mkF m 29 #[.val (.ref u0), .val (.int (3 : Int32)), .val (.double fv17), .second, .val (.int (2 : Int32)), .val (.int (0 : Int32))] [(.int (2 : Int32)), (.int (2 : Int32)), (.ref u0), (.double fv17)])) _
    refine XS.imul X0.here hx rfl (hb hby d2_29) rfl ?_
    refine st18 _ ?_
    show Steps p.tables e below (s₁.setTop (mkF m 31 #[.val (.ref u0), .val (.int (3 : Int32)), .val (.double fv17), .second, .val (.int (2 : Int32)), .val (.int (0 : Int32))] [(.double d4), (.double fv17)])) _
    refine XS.aloadN X0.here hx rfl (hb hby d2_31) rfl rfl ?_
    refine XS.iconst X0.here hx rfl (hb hby d2_32) ?_
    refine XS.iload X0.here hx rfl (hb hby d2_33) rfl ?_
    show Steps p.tables e below (s₁.setTop (mkF m 35 #[.val (.ref u0), .val (.int (3 : Int32)), .val (.double fv17), .second, .val (.int (2 : Int32)), .val (.int (0 : Int32))] [(.int (0 : Int32)), (.int (2 : Int32)), (.ref u0), (.double d4), (.double fv17)])) _
    refine XS.imul X0.here hx rfl (hb hby d2_35) rfl ?_
    show Steps p.tables e below (s₁.setTop (mkF m 36 #[.val (.ref u0), .val (.int (3 : Int32)), .val (.double fv17), .second, .val (.int (2 : Int32)), .val (.int (0 : Int32))] [(.int (0 : Int32)), (.ref u0), (.double d4), (.double fv17)])) _
    refine XS.iconst X0.here hx rfl (hb hby d2_36) ?_
    show Steps p.tables e below (s₁.setTop (mkF m 37 #[.val (.ref u0), .val (.int (3 : Int32)), .val (.double fv17), .second, .val (.int (2 : Int32)), .val (.int (0 : Int32))] [(.int (1 : Int32)), (.int (0 : Int32)), (.ref u0), (.double d4), (.double fv17)])) _
    refine XS.iadd X0.here hx rfl (hb hby d2_37) rfl ?_
    refine st19 _ ?_
    show Steps p.tables e below (s₁.setTop (mkF m 39 #[.val (.ref u0), .val (.int (3 : Int32)), .val (.double fv17), .second, .val (.int (2 : Int32)), .val (.int (0 : Int32))] [(.double d1), (.double d4), (.double fv17)])) _
    refine XS.dmulS X0.here hx rfl (hb hby d2_39) rfl (v := fv20) (by rw [← fe20]; exact di20.nn) fe20.symm ?_
    refine XS.aloadN X0.here hx rfl (hb hby d2_40) rfl rfl ?_
    refine XS.iconst X0.here hx rfl (hb hby d2_41) ?_
    refine XS.iload X0.here hx rfl (hb hby d2_42) rfl ?_
    show Steps p.tables e below (s₁.setTop (mkF m 44 #[.val (.ref u0), .val (.int (3 : Int32)), .val (.double fv17), .second, .val (.int (2 : Int32)), .val (.int (0 : Int32))] [(.int (0 : Int32)), (.int (2 : Int32)), (.ref u0), (.double fv20), (.double fv17)])) _
    refine XS.imul X0.here hx rfl (hb hby d2_44) rfl ?_
    refine st21 _ ?_
    show Steps p.tables e below (s₁.setTop (mkF m 46 #[.val (.ref u0), .val (.int (3 : Int32)), .val (.double fv17), .second, .val (.int (2 : Int32)), .val (.int (0 : Int32))] [(.double d0), (.double fv20), (.double fv17)])) _
    refine XS.aloadN X0.here hx rfl (hb hby d2_46) rfl rfl ?_
    refine XS.iconst X0.here hx rfl (hb hby d2_47) ?_
    refine XS.iload X0.here hx rfl (hb hby d2_48) rfl ?_
    show Steps p.tables e below (s₁.setTop (mkF m 50 #[.val (.ref u0), .val (.int (3 : Int32)), .val (.double fv17), .second, .val (.int (2 : Int32)), .val (.int (0 : Int32))] [(.int (2 : Int32)), (.int (2 : Int32)), (.ref u0), (.double d0), (.double fv20), (.double fv17)])) _
    refine XS.imul X0.here hx rfl (hb hby d2_50) rfl ?_
    show Steps p.tables e below (s₁.setTop (mkF m 51 #[.val (.ref u0), .val (.int (3 : Int32)), .val (.double fv17), .second, .val (.int (2 : Int32)), .val (.int (0 : Int32))] [(.int (4 : Int32)), (.ref u0), (.double d0), (.double fv20), (.double fv17)])) _
    refine XS.iconst X0.here hx rfl (hb hby d2_51) ?_
    show Steps p.tables e below (s₁.setTop (mkF m 52 #[.val (.ref u0), .val (.int (3 : Int32)), .val (.double fv17), .second, .val (.int (2 : Int32)), .val (.int (0 : Int32))] [(.int (1 : Int32)), (.int (4 : Int32)), (.ref u0), (.double d0), (.double fv20), (.double fv17)])) _
    refine XS.iadd X0.here hx rfl (hb hby d2_52) rfl ?_
    refine st22 _ ?_
    show Steps p.tables e below (s₁.setTop (mkF m 54 #[.val (.ref u0), .val (.int (3 : Int32)), .val (.double fv17), .second, .val (.int (2 : Int32)), .val (.int (0 : Int32))] [(.double d5), (.double d0), (.double fv20), (.double fv17)])) _
    refine XS.dmulS X0.here hx rfl (hb hby d2_54) rfl (v := fv23) (by rw [← fe23]; exact di23.nn) fe23.symm ?_
    refine XS.dsubS X0.here hx rfl (hb hby d2_55) rfl (v := fv24) (by rw [← fe24]; exact di24.nn) fe24.symm ?_
    refine XS.daddS X0.here hx rfl (hb hby d2_56) rfl (v := fv25) (by rw [← fe25]; exact di25.nn) fe25.symm ?_
    refine XS.dstoreN X0.here hx rfl (hb hby d2_57) rfl (l' := #[.val (.ref u0), .val (.int (3 : Int32)), .val (.double fv25), .second, .val (.int (2 : Int32)), .val (.int (0 : Int32))]) rfl ?_
    show Steps p.tables e below (s₁.setTop (mkF m 58 #[.val (.ref u0), .val (.int (3 : Int32)), .val (.double fv25), .second, .val (.int (2 : Int32)), .val (.int (0 : Int32))] [])) _
    refine XS.iinc X0.here hx rfl (hb hby d2_58) rfl (l' := #[.val (.ref u0), .val (.int (3 : Int32)), .val (.double fv25), .second, .val (.int (3 : Int32)), .val (.int (0 : Int32))]) rfl ?_
    show Steps p.tables e below (s₁.setTop (mkF m 61 #[.val (.ref u0), .val (.int (3 : Int32)), .val (.double fv25), .second, .val (.int (3 : Int32)), .val (.int (0 : Int32))] [])) _
    refine XS.goto X0.here hx rfl (pc0 := 61) (pc' := 10) rfl (hb hby d2_61) (by decide) (by decide) ?_
    refine XS.iload X0.here hx rfl (hb hby d2_10) rfl ?_
    refine XS.iloadN X0.here hx rfl (hb hby d2_12) rfl ?_
    refine XS.icmpYes X0.here hx rfl (pc0 := 13) (pc' := 64) rfl (hb hby d2_13) rfl (flt (by decide)).2.1 (by decide) (by decide) ?_
    refine XS.dloadN X0.here hx rfl (hb hby d2_64) rfl ?_
    refine XS.dconst0 X0.here hx rfl (hb hby d2_65) (v := 0) (by decide +kernel) ?_
    refine XS.dcmpS X0.here hx rfl (hb hby d2_66) rfl (v := cv26) ce26.symm ?_
    refine XS.ifNo X0.here hx rfl (hb hby d2_67) rfl ((if0 _ _).trans (flt (by rw [ce26]; exact fun q => hA ((DI.cmp di25).mp q))).1) ?_
    refine XS.aloadN X0.here hx rfl (hb hby d2_70) rfl rfl ?_
    show Steps p.tables e below (s₁.setTop (mkF m 71 #[.val (.ref u0), .val (.int (3 : Int32)), .val (.double fv25), .second, .val (.int (3 : Int32)), .val (.int (0 : Int32))] [(.ref u0)])) _
    jvm_step X0.here [X0.here.top, hx, (hb hby d2_71), X0.method', Bd.returns, Value.isRef, FieldType.isReference]
    first | (intro acts; rw [hr _ acts rfl rfl rfl]) | rw [hr _ _ rfl rfl rfl]
    exact Steps.refl _
  · show QC3 Z u0 k_u0 d0 d1 d2 d3 d4 d5 x0 x1 x2 x3 x4 x5 h0 n0 _ s₁.heap _
    rw [e0]
    exact ⟨rfl, N0, rfl⟩
theorem d2_72 : decode prog_81_method_4_code 72 = .ok (.aload_n 0, 1) := by decide +kernel
theorem d2_73 : decode prog_81_method_4_code 73 = .ok (.arraylength, 1) := by decide +kernel
theorem d2_74 : decode prog_81_method_4_code 74 = .ok (.newarray .double, 2) := by decide +kernel
theorem d2_76 : decode prog_81_method_4_code 76 = .ok (.astore 4, 2) := by decide +kernel
theorem d2_78 : decode prog_81_method_4_code 78 = .ok (.iconst 0, 1) := by decide +kernel
theorem d2_79 : decode prog_81_method_4_code 79 = .ok (.istore 5, 2) := by decide +kernel
theorem d2_81 : decode prog_81_method_4_code 81 = .ok (.iload 5, 2) := by decide +kernel
theorem d2_83 : decode prog_81_method_4_code 83 = .ok (.iload_n 1, 1) := by decide +kernel
theorem d2_84 : decode prog_81_method_4_code 84 = .ok (.if_icmp .ge 47, 3) := by decide +kernel
theorem d2_87 : decode prog_81_method_4_code 87 = .ok (.aload 4, 2) := by decide +kernel
theorem d2_89 : decode prog_81_method_4_code 89 = .ok (.iconst 2, 1) := by decide +kernel
theorem d2_90 : decode prog_81_method_4_code 90 = .ok (.iload 5, 2) := by decide +kernel
theorem d2_92 : decode prog_81_method_4_code 92 = .ok (.imul, 1) := by decide +kernel
theorem d2_93 : decode prog_81_method_4_code 93 = .ok (.aload_n 0, 1) := by decide +kernel
theorem d2_94 : decode prog_81_method_4_code 94 = .ok (.iconst 2, 1) := by decide +kernel
theorem d2_95 : decode prog_81_method_4_code 95 = .ok (.iload_n 1, 1) := by decide +kernel
theorem d2_96 : decode prog_81_method_4_code 96 = .ok (.iconst 1, 1) := by decide +kernel
theorem d2_97 : decode prog_81_method_4_code 97 = .ok (.isub, 1) := by decide +kernel
theorem d2_98 : decode prog_81_method_4_code 98 = .ok (.iload 5, 2) := by decide +kernel
theorem d2_100 : decode prog_81_method_4_code 100 = .ok (.isub, 1) := by decide +kernel
theorem d2_101 : decode prog_81_method_4_code 101 = .ok (.imul, 1) := by decide +kernel
theorem d2_102 : decode prog_81_method_4_code 102 = .ok (.daload, 1) := by decide +kernel
theorem d2_103 : decode prog_81_method_4_code 103 = .ok (.dastore, 1) := by decide +kernel
theorem d2_104 : decode prog_81_method_4_code 104 = .ok (.aload 4, 2) := by decide +kernel
theorem d2_106 : decode prog_81_method_4_code 106 = .ok (.iconst 2, 1) := by decide +kernel
theorem d2_107 : decode prog_81_method_4_code 107 = .ok (.iload 5, 2) := by decide +kernel
theorem d2_109 : decode prog_81_method_4_code 109 = .ok (.imul, 1) := by decide +kernel
theorem d2_110 : decode prog_81_method_4_code 110 = .ok (.iconst 1, 1) := by decide +kernel
theorem d2_111 : decode prog_81_method_4_code 111 = .ok (.iadd, 1) := by decide +kernel
theorem d2_112 : decode prog_81_method_4_code 112 = .ok (.aload_n 0, 1) := by decide +kernel
theorem d2_113 : decode prog_81_method_4_code 113 = .ok (.iconst 2, 1) := by decide +kernel
theorem d2_114 : decode prog_81_method_4_code 114 = .ok (.iload_n 1, 1) := by decide +kernel
theorem d2_115 : decode prog_81_method_4_code 115 = .ok (.iconst 1, 1) := by decide +kernel
theorem d2_116 : decode prog_81_method_4_code 116 = .ok (.isub, 1) := by decide +kernel
theorem d2_117 : decode prog_81_method_4_code 117 = .ok (.iload 5, 2) := by decide +kernel
theorem d2_119 : decode prog_81_method_4_code 119 = .ok (.isub, 1) := by decide +kernel
theorem d2_120 : decode prog_81_method_4_code 120 = .ok (.imul, 1) := by decide +kernel
theorem d2_121 : decode prog_81_method_4_code 121 = .ok (.iconst 1, 1) := by decide +kernel
theorem d2_122 : decode prog_81_method_4_code 122 = .ok (.iadd, 1) := by decide +kernel
theorem d2_123 : decode prog_81_method_4_code 123 = .ok (.daload, 1) := by decide +kernel
theorem d2_124 : decode prog_81_method_4_code 124 = .ok (.dastore, 1) := by decide +kernel
theorem d2_125 : decode prog_81_method_4_code 125 = .ok (.iinc 5 1, 3) := by decide +kernel
theorem d2_128 : decode prog_81_method_4_code 128 = .ok (.goto (-47), 3) := by decide +kernel
theorem d2_131 : decode prog_81_method_4_code 131 = .ok (.aload 4, 2) := by decide +kernel
theorem d2_133 : decode prog_81_method_4_code 133 = .ok (.areturn, 1) := by decide +kernel
theorem ef_C3n (m : MethodId) (u0 : Addr) : entryFrame m #[(.ref u0)] 6 = mkF m 0 #[.val (.ref u0), .unset, .unset, .unset, .unset, .unset] [] := by first | (simp [entryFrame, mkF, argsToLocals, Value.category]; done) | rfl
def QC3n (Z : State) (u0 : Addr) (k_u0 : ClassId) (d0 : UInt64) (d1 : UInt64) (d2 : UInt64) (d3 : UInt64) (d4 : UInt64) (d5 : UInt64) (x0 : Int) (x1 : Int) (x2 : Int) (x3 : Int) (x4 : Int) (x5 : Int) (h0 : Heap) (n0 : Nat) (v : Option Value) (h : Heap) (L : List Loc) : Prop := v = some (.ref h0.size) ∧ Fr n0 L ∧ Keep h0 h [] ∧ ∃ kk : ClassId, Arv Z h h0.size kk .double (6 : Int32) [(.double d4), (.double d5), (.double d2), (.double d3), (.double d0), (.double d1)] (.double (0 : UInt64))
set_option maxRecDepth 65536 in
set_option maxHeartbeats 40000000 in
theorem rmC3n (l : Launch) (Z : State) (a0 : Array Value) (hw : ∀ d ∈ tables_1, d.before a0 Z = true) (ws : List Jvm.Cond) (u0 : Addr) (k_u0 : ClassId) (d0 : UInt64) (d1 : UInt64) (d2 : UInt64) (d3 : UInt64) (d4 : UInt64) (d5 : UInt64) (x0 : Int) (x1 : Int) (x2 : Int) (x3 : Int) (x4 : Int) (x5 : Int) (h0 : Heap) (n0 : Nat) (Z0 : n0 ≤ h0.size) (V_u0 : Arv Z h0 u0 k_u0 .double (6 : Int32) [(.double d0), (.double d1), (.double d2), (.double d3), (.double d4), (.double d5)] (.double (0 : UInt64))) (D0 : DI x0 32768 d0) (D1 : DI x1 32768 d1) (D2 : DI x2 32768 d2) (D3 : DI x3 32768 d3) (D4 : DI x4 32768 d4) (D5 : DI x5 32768 d5) (hA : ((((0 : Int) + ((x0 * x3) - (x2 * x1))) + ((x2 * x5) - (x4 * x3))) + ((x4 * x1) - (x0 * x5))) < 0) :
    MetFree l (⟨"com/example/decorum/decorum/graphics/Rasterizer", "clockwise", "([D)[D"⟩ : MethodName) (head1 (Jvm.Cond.code (⟨"com/example/decorum/decorum/graphics/Rasterizer", "clockwise", "([D)[D"⟩ : MethodName) prog_81_method_4_code 6 (some (.array .double)) :: ws) ({ frames := 0, cells := 1, slots := 6, locals := 0 } : Room)) (fun a U => a = #[(.ref u0)] ∧ Z.Warmed39 U.vm ∧ U.heap = h0) (fun _ _ _ _ _ => True) (fun _ U o U' => ∃ v L, o = .returned v ∧ QC3n Z u0 k_u0 d0 d1 d2 d3 d4 d5 x0 x1 x2 x3 x4 x5 h0 n0 v U'.heap L ∧ FrameEnd U o U' L ({ frames := 0, cells := 1, slots := 6, locals := 0 } : Room).cells ({ frames := 0, cells := 1, slots := 6, locals := 0 } : Room).slots) := by
  refine MetFree.of_bodySF (plainFor_of_name pn_com_example_decorum_decorum_graphics_Rasterizer) hisR ?_
  intro p e s m args below meth c s₁ Bd hml0 hP hK
  obtain ⟨rfl, hZ, hh⟩ := hP
  have hx := Bd.exec
  have hby := Bd.bytes
  have hml : c.maxLocals = 6 := hml0
  have hown : s.vm.findClass "com/example/decorum/decorum/graphics/Rasterizer" = some m.cls := findClass_of_methodNamed Bd.named
  have hnm := (name_of_methodNamed Bd.named Bd.method).1
  have X0 : Stand p l e ({ frames := 0, cells := 1, slots := 6, locals := 0 } : Room) s m #[(.ref u0)] below meth c s₁ [] 0 0 := Stand.of_body Bd
  have e0 : s₁.heap = h0 := by rw [← hh, Bd.state]; rfl
  have N0 := Fr.nil n0
  have pre0 : ∀ t, Steps p.tables e below (s₁.setTop (mkF m 0 #[.val (.ref u0), .unset, .unset, .unset, .unset, .unset] [])) t → Steps p.tables e below (s₁.setTop (entryFrame m #[(.ref u0)] 6)) t := fun t k => castTop (ef_C3n m u0) k
  obtain ⟨cl1, Ar1, qa1, Sa1, Na1, Ha1, Ga1⟩ := id V_u0
  have st1 := X0.arraylength hx (by rw [e0]; exact Ar1.1) (State.isArrayOf_alike hZ.alike Ar1.2.1) (g := (mkF m 1 #[.val (.ref u0), .unset, .unset, .unset, .unset, .unset] [(.ref u0)])) rfl rfl (hb hby d2_1)
  rw [len_of Sa1 Na1] at st1
  have hi2 := inb_of (j := (0 : Int32)) Sa1 ⟨by decide, by decide⟩
  have st2 := X0.daload hx (j := (0 : Int32)) (v := (.double d0)) (by rw [e0]; exact Ar1.1) (State.isArrayOf_alike hZ.alike Ar1.2.1) Ar1.2.2 hi2 (Has.at Ha1 hi2 rfl) (g := (mkF m 30 #[.val (.ref u0), .val (.int (3 : Int32)), .val (.double (0 : UInt64)), .second, .val (.int (0 : Int32)), .val (.int (1 : Int32))] [(.int (0 : Int32)), (.ref u0), (.double (0 : UInt64))])) rfl rfl (hb hby d2_30)
  have hi3 := inb_of (j := (3 : Int32)) Sa1 ⟨by decide, by decide⟩
  have st3 := X0.daload hx (j := (3 : Int32)) (v := (.double d3)) (by rw [e0]; exact Ar1.1) (State.isArrayOf_alike hZ.alike Ar1.2.1) Ar1.2.2 hi3 (Has.at Ha1 hi3 rfl) (g := (mkF m 38 #[.val (.ref u0), .val (.int (3 : Int32)), .val (.double (0 : UInt64)), .second, .val (.int (0 : Int32)), .val (.int (1 : Int32))] [(.int (3 : Int32)), (.ref u0), (.double d0), (.double (0 : UInt64))])) rfl rfl (hb hby d2_38)
  obtain ⟨fv4, fe4⟩ : ∃ z, z = FP.dmul d0 d3 := ⟨_, rfl⟩
  have di4 : DI (x0 * x3) 1073741824 fv4 := DI.mul D0 D3 fe4 (by decide)
  have hi5 := inb_of (j := (2 : Int32)) Sa1 ⟨by decide, by decide⟩
  have st5 := X0.daload hx (j := (2 : Int32)) (v := (.double d2)) (by rw [e0]; exact Ar1.1) (State.isArrayOf_alike hZ.alike Ar1.2.1) Ar1.2.2 hi5 (Has.at Ha1 hi5 rfl) (g := (mkF m 45 #[.val (.ref u0), .val (.int (3 : Int32)), .val (.double (0 : UInt64)), .second, .val (.int (0 : Int32)), .val (.int (1 : Int32))] [(.int (2 : Int32)), (.ref u0), (.double fv4), (.double (0 : UInt64))])) rfl rfl (hb hby d2_45)
  have hi6 := inb_of (j := (1 : Int32)) Sa1 ⟨by decide, by decide⟩
  have st6 := X0.daload hx (j := (1 : Int32)) (v := (.double d1)) (by rw [e0]; exact Ar1.1) (State.isArrayOf_alike hZ.alike Ar1.2.1) Ar1.2.2 hi6 (Has.at Ha1 hi6 rfl) (g := (mkF m 53 #[.val (.ref u0), .val (.int (3 : Int32)), .val (.double (0 : UInt64)), .second, .val (.int (0 : Int32)), .val (.int (1 : Int32))] [(.int (1 : Int32)), (.ref u0), (.double d2), (.double fv4), (.double (0 : UInt64))])) rfl rfl (hb hby d2_53)
  obtain ⟨fv7, fe7⟩ : ∃ z, z = FP.dmul d2 d1 := ⟨_, rfl⟩
  have di7 : DI (x2 * x1) 1073741824 fv7 := DI.mul D2 D1 fe7 (by decide)
  obtain ⟨fv8, fe8⟩ : ∃ z, z = FP.dsub fv4 fv7 := ⟨_, rfl⟩
  have di8 : DI ((x0 * x3) - (x2 * x1)) 2147483648 fv8 := DI.sub di4 di7 fe8 (by decide)
  obtain ⟨fv9, fe9⟩ : ∃ z, z = FP.dadd (0 : UInt64) fv8 := ⟨_, rfl⟩
  have di9 : DI ((0 : Int) + ((x0 * x3) - (x2 * x1))) 2147483648 fv9 := DI.add DI.zero di8 fe9 (by decide)
  have hi10 := inb_of (j := (2 : Int32)) Sa1 ⟨by decide, by decide⟩
  have st10 := X0.daload hx (j := (2 : Int32)) (v := (.double d2)) (by rw [e0]; exact Ar1.1) (State.isArrayOf_alike hZ.alike Ar1.2.1) Ar1.2.2 hi10 (Has.at Ha1 hi10 rfl) (g := (mkF m 30 #[.val (.ref u0), .val (.int (3 : Int32)), .val (.double fv9), .second, .val (.int (1 : Int32)), .val (.int (2 : Int32))] [(.int (2 : Int32)), (.ref u0), (.double fv9)])) rfl rfl (hb hby d2_30)
  have hi11 := inb_of (j := (5 : Int32)) Sa1 ⟨by decide, by decide⟩
  have st11 := X0.daload hx (j := (5 : Int32)) (v := (.double d5)) (by rw [e0]; exact Ar1.1) (State.isArrayOf_alike hZ.alike Ar1.2.1) Ar1.2.2 hi11 (Has.at Ha1 hi11 rfl) (g := (mkF m 38 #[.val (.ref u0), .val (.int (3 : Int32)), .val (.double fv9), .second, .val (.int (1 : Int32)), .val (.int (2 : Int32))] [(.int (5 : Int32)), (.ref u0), (.double d2), (.double fv9)])) rfl rfl (hb hby d2_38)
  obtain ⟨fv12, fe12⟩ : ∃ z, z = FP.dmul d2 d5 := ⟨_, rfl⟩
  have di12 : DI (x2 * x5) 1073741824 fv12 := DI.mul D2 D5 fe12 (by decide)
  have hi13 := inb_of (j := (4 : Int32)) Sa1 ⟨by decide, by decide⟩
  have st13 := X0.daload hx (j := (4 : Int32)) (v := (.double d4)) (by rw [e0]; exact Ar1.1) (State.isArrayOf_alike hZ.alike Ar1.2.1) Ar1.2.2 hi13 (Has.at Ha1 hi13 rfl) (g := (mkF m 45 #[.val (.ref u0), .val (.int (3 : Int32)), .val (.double fv9), .second, .val (.int (1 : Int32)), .val (.int (2 : Int32))] [(.int (4 : Int32)), (.ref u0), (.double fv12), (.double fv9)])) rfl rfl (hb hby d2_45)
  have hi14 := inb_of (j := (3 : Int32)) Sa1 ⟨by decide, by decide⟩
  have st14 := X0.daload hx (j := (3 : Int32)) (v := (.double d3)) (by rw [e0]; exact Ar1.1) (State.isArrayOf_alike hZ.alike Ar1.2.1) Ar1.2.2 hi14 (Has.at Ha1 hi14 rfl) (g := (mkF m 53 #[.val (.ref u0), .val (.int (3 : Int32)), .val (.double fv9), .second, .val (.int (1 : Int32)), .val (.int (2 : Int32))] [(.int (3 : Int32)), (.ref u0), (.double d4), (.double fv12), (.double fv9)])) rfl rfl (hb hby d2_53)
  obtain ⟨fv15, fe15⟩ : ∃ z, z = FP.dmul d4 d3 := ⟨_, rfl⟩
  have di15 : DI (x4 * x3) 1073741824 fv15 := DI.mul D4 D3 fe15 (by decide)
  obtain ⟨fv16, fe16⟩ : ∃ z, z = FP.dsub fv12 fv15 := ⟨_, rfl⟩
  have di16 : DI ((x2 * x5) - (x4 * x3)) 2147483648 fv16 := DI.sub di12 di15 fe16 (by decide)
  obtain ⟨fv17, fe17⟩ : ∃ z, z = FP.dadd fv9 fv16 := ⟨_, rfl⟩
  have di17 : DI (((0 : Int) + ((x0 * x3) - (x2 * x1))) + ((x2 * x5) - (x4 * x3))) 4294967296 fv17 := DI.add di9 di16 fe17 (by decide)
  have hi18 := inb_of (j := (4 : Int32)) Sa1 ⟨by decide, by decide⟩
  have st18 := X0.daload hx (j := (4 : Int32)) (v := (.double d4)) (by rw [e0]; exact Ar1.1) (State.isArrayOf_alike hZ.alike Ar1.2.1) Ar1.2.2 hi18 (Has.at Ha1 hi18 rfl) (g := (mkF m 30 #[.val (.ref u0), .val (.int (3 : Int32)), .val (.double fv17), .second, .val (.int (2 : Int32)), .val (.int (0 : Int32))] [(.int (4 : Int32)), (.ref u0), (.double fv17)])) rfl rfl (hb hby d2_30)
  have hi19 := inb_of (j := (1 : Int32)) Sa1 ⟨by decide, by decide⟩
  have st19 := X0.daload hx (j := (1 : Int32)) (v := (.double d1)) (by rw [e0]; exact Ar1.1) (State.isArrayOf_alike hZ.alike Ar1.2.1) Ar1.2.2 hi19 (Has.at Ha1 hi19 rfl) (g := (mkF m 38 #[.val (.ref u0), .val (.int (3 : Int32)), .val (.double fv17), .second, .val (.int (2 : Int32)), .val (.int (0 : Int32))] [(.int (1 : Int32)), (.ref u0), (.double d4), (.double fv17)])) rfl rfl (hb hby d2_38)
  obtain ⟨fv20, fe20⟩ : ∃ z, z = FP.dmul d4 d1 := ⟨_, rfl⟩
  have di20 : DI (x4 * x1) 1073741824 fv20 := DI.mul D4 D1 fe20 (by decide)
  have hi21 := inb_of (j := (0 : Int32)) Sa1 ⟨by decide, by decide⟩
  have st21 := X0.daload hx (j := (0 : Int32)) (v := (.double d0)) (by rw [e0]; exact Ar1.1) (State.isArrayOf_alike hZ.alike Ar1.2.1) Ar1.2.2 hi21 (Has.at Ha1 hi21 rfl) (g := (mkF m 45 #[.val (.ref u0), .val (.int (3 : Int32)), .val (.double fv17), .second, .val (.int (2 : Int32)), .val (.int (0 : Int32))] [(.int (0 : Int32)), (.ref u0), (.double fv20), (.double fv17)])) rfl rfl (hb hby d2_45)
  have hi22 := inb_of (j := (5 : Int32)) Sa1 ⟨by decide, by decide⟩
  have st22 := X0.daload hx (j := (5 : Int32)) (v := (.double d5)) (by rw [e0]; exact Ar1.1) (State.isArrayOf_alike hZ.alike Ar1.2.1) Ar1.2.2 hi22 (Has.at Ha1 hi22 rfl) (g := (mkF m 53 #[.val (.ref u0), .val (.int (3 : Int32)), .val (.double fv17), .second, .val (.int (2 : Int32)), .val (.int (0 : Int32))] [(.int (5 : Int32)), (.ref u0), (.double d0), (.double fv20), (.double fv17)])) rfl rfl (hb hby d2_53)
  obtain ⟨fv23, fe23⟩ : ∃ z, z = FP.dmul d0 d5 := ⟨_, rfl⟩
  have di23 : DI (x0 * x5) 1073741824 fv23 := DI.mul D0 D5 fe23 (by decide)
  obtain ⟨fv24, fe24⟩ : ∃ z, z = FP.dsub fv20 fv23 := ⟨_, rfl⟩
  have di24 : DI ((x4 * x1) - (x0 * x5)) 2147483648 fv24 := DI.sub di20 di23 fe24 (by decide)
  obtain ⟨fv25, fe25⟩ : ∃ z, z = FP.dadd fv17 fv24 := ⟨_, rfl⟩
  have di25 : DI ((((0 : Int) + ((x0 * x3) - (x2 * x1))) + ((x2 * x5) - (x4 * x3))) + ((x4 * x1) - (x0 * x5))) 6442450944 fv25 := DI.add di17 di24 fe25 (by decide)
  obtain ⟨cv26, ce26⟩ : ∃ z, z = cmpValue (FP.dcmp fv25 (0 : UInt64)) .l := ⟨_, rfl⟩
  have st27 := X0.arraylength hx (by rw [e0]; exact Ar1.1) (State.isArrayOf_alike hZ.alike Ar1.2.1) (g := (mkF m 73 #[.val (.ref u0), .val (.int (3 : Int32)), .val (.double fv25), .second, .val (.int (3 : Int32)), .val (.int (0 : Int32))] [(.ref u0)])) rfl rfl (hb hby d2_73)
  rw [len_of Sa1 Na1] at st27
  obtain ⟨T28, h28, k28, X28, e28, E28, A28, st28⟩ := newP X0 hx hZ (hw _ (List.mem_of_getElem? (i := 4) rfl)) e0 (g := (mkF m 74 #[.val (.ref u0), .val (.int (3 : Int32)), .val (.double fv25), .second, .val (.int (3 : Int32)), .val (.int (0 : Int32))] [(.int (6 : Int32))])) rfl (hb hby d2_74) rfl (by decide) (cap := 6) (by decide) (by decide) (by decide) (by decide)
  obtain ⟨b28, g28⟩ : ∃ z, z = h0.size := ⟨_, rfl⟩
  rw [← g28] at A28 st28
  have g_b28 : n0 ≤ b28 := Nat.le_trans Z0 (Nat.le_of_eq g28.symm)
  have sz_b28 : h0.size ≤ b28 := Nat.le_trans (Keep.refl h0 []).1 (Nat.le_of_eq g28.symm)
  have V28 : Arv Z h28 b28 k28 .double (6 : Int32) [(.double (0 : UInt64)), (.double (0 : UInt64)), (.double (0 : UInt64)), (.double (0 : UInt64)), (.double (0 : UInt64)), (.double (0 : UInt64))] (.double (0 : UInt64)) := (Arv.new A28 (by decide)).pad (pad_rep [] (.double (0 : UInt64)) 6)
  have Z28 : n0 ≤ h28.size := Nat.le_trans Z0 E28.1
  have KK28 := (Keep.refl h0 []).ext E28
  obtain ⟨cl29, Ar29, qa29, Sa29, Na29, Ha29, Ga29⟩ := id (V_u0.ext E28)
  have hi29 := inb_of (j := (4 : Int32)) Sa29 ⟨by decide, by decide⟩
  have st29 := X28.daload hx (j := (4 : Int32)) (v := (.double d4)) (by rw [e28]; exact Ar29.1) (State.isArrayOf_alike hZ.alike Ar29.2.1) Ar29.2.2 hi29 (Has.at Ha29 hi29 rfl) (g := (mkF m 102 #[.val (.ref u0), .val (.int (3 : Int32)), .val (.double fv25), .second, .val (.ref b28), .val (.int (0 : Int32))] [(.int (4 : Int32)), (.ref u0), (.int (0 : Int32)), (.ref b28)])) rfl rfl (hb hby d2_102)
  obtain ⟨cl30, Ar30, qa30, Sa30, Na30, Ha30, Ga30⟩ := id V28
  obtain ⟨T31, h31, X31, e31, W31, st31⟩ := stD X28 hx hZ e28 Ar30 (j := (0 : Int32)) (inb_of Sa30 ⟨by decide, by decide⟩) (g := (mkF m 103 #[.val (.ref u0), .val (.int (3 : Int32)), .val (.double fv25), .second, .val (.ref b28), .val (.int (0 : Int32))] [(.double d4), (.int (0 : Int32)), (.ref b28)])) rfl rfl (hb hby d2_103)
  have V31 : Arv Z h31 b28 k28 .double (6 : Int32) [(.double d4), (.double (0 : UInt64)), (.double (0 : UInt64)), (.double (0 : UInt64)), (.double (0 : UInt64)), (.double (0 : UInt64))] (.double (0 : UInt64)) := Arv.set Ar30 qa30 Sa30 Na30 Ha30 Ga30 rfl W31 0 rfl (Nat.le_of_ble_eq_true rfl)
  have N31 := Fr.snoc X31 N0 g_b28
  have Z31 : n0 ≤ h31.size := Nat.le_trans Z28 (Keep.of_wr W31).1
  have KK31 := KK28.wr W31 (Or.inr sz_b28)
  obtain ⟨cl32, Ar32, qa32, Sa32, Na32, Ha32, Ga32⟩ := id ((V_u0.ext E28).other W31 (Nat.ne_of_lt (Nat.lt_of_lt_of_le V_u0.lt (Nat.le_of_eq g28.symm))))
  have hi32 := inb_of (j := (5 : Int32)) Sa32 ⟨by decide, by decide⟩
  have st32 := X31.daload hx (j := (5 : Int32)) (v := (.double d5)) (by rw [e31]; exact Ar32.1) (State.isArrayOf_alike hZ.alike Ar32.2.1) Ar32.2.2 hi32 (Has.at Ha32 hi32 rfl) (g := (mkF m 123 #[.val (.ref u0), .val (.int (3 : Int32)), .val (.double fv25), .second, .val (.ref b28), .val (.int (0 : Int32))] [(.int (5 : Int32)), (.ref u0), (.int (1 : Int32)), (.ref b28)])) rfl rfl (hb hby d2_123)
  obtain ⟨cl33, Ar33, qa33, Sa33, Na33, Ha33, Ga33⟩ := id V31
  obtain ⟨T34, h34, X34, e34, W34, st34⟩ := stD X31 hx hZ e31 Ar33 (j := (1 : Int32)) (inb_of Sa33 ⟨by decide, by decide⟩) (g := (mkF m 124 #[.val (.ref u0), .val (.int (3 : Int32)), .val (.double fv25), .second, .val (.ref b28), .val (.int (0 : Int32))] [(.double d5), (.int (1 : Int32)), (.ref b28)])) rfl rfl (hb hby d2_124)
  have V34 : Arv Z h34 b28 k28 .double (6 : Int32) [(.double d4), (.double d5), (.double (0 : UInt64)), (.double (0 : UInt64)), (.double (0 : UInt64)), (.double (0 : UInt64))] (.double (0 : UInt64)) := Arv.set Ar33 qa33 Sa33 Na33 Ha33 Ga33 rfl W34 1 rfl (Nat.le_of_ble_eq_true rfl)
  have N34 := Fr.snoc X34 N31 g_b28
  have Z34 : n0 ≤ h34.size := Nat.le_trans Z31 (Keep.of_wr W34).1
  have KK34 := KK31.wr W34 (Or.inr sz_b28)
  obtain ⟨cl35, Ar35, qa35, Sa35, Na35, Ha35, Ga35⟩ := id (((V_u0.ext E28).other W31 (Nat.ne_of_lt (Nat.lt_of_lt_of_le V_u0.lt (Nat.le_of_eq g28.symm)))).other W34 (Nat.ne_of_lt (Nat.lt_of_lt_of_le V_u0.lt (Nat.le_of_eq g28.symm))))
  have hi35 := inb_of (j := (2 : Int32)) Sa35 ⟨by decide, by decide⟩
  have st35 := X34.daload hx (j := (2 : Int32)) (v := (.double d2)) (by rw [e34]; exact Ar35.1) (State.isArrayOf_alike hZ.alike Ar35.2.1) Ar35.2.2 hi35 (Has.at Ha35 hi35 rfl) (g := (mkF m 102 #[.val (.ref u0), .val (.int (3 : Int32)), .val (.double fv25), .second, .val (.ref b28), .val (.int (1 : Int32))] [(.int (2 : Int32)), (.ref u0), (.int (2 : Int32)), (.ref b28)])) rfl rfl (hb hby d2_102)
  obtain ⟨cl36, Ar36, qa36, Sa36, Na36, Ha36, Ga36⟩ := id V34
  obtain ⟨T37, h37, X37, e37, W37, st37⟩ := stD X34 hx hZ e34 Ar36 (j := (2 : Int32)) (inb_of Sa36 ⟨by decide, by decide⟩) (g := (mkF m 103 #[.val (.ref u0), .val (.int (3 : Int32)), .val (.double fv25), .second, .val (.ref b28), .val (.int (1 : Int32))] [(.double d2), (.int (2 : Int32)), (.ref b28)])) rfl rfl (hb hby d2_103)
  have V37 : Arv Z h37 b28 k28 .double (6 : Int32) [(.double d4), (.double d5), (.double d2), (.double (0 : UInt64)), (.double (0 : UInt64)), (.double (0 : UInt64))] (.double (0 : UInt64)) := Arv.set Ar36 qa36 Sa36 Na36 Ha36 Ga36 rfl W37 2 rfl (Nat.le_of_ble_eq_true rfl)
  have N37 := Fr.snoc X37 N34 g_b28
  have Z37 : n0 ≤ h37.size := Nat.le_trans Z34 (Keep.of_wr W37).1
  have KK37 := KK34.wr W37 (Or.inr sz_b28)
  obtain ⟨cl38, Ar38, qa38, Sa38, Na38, Ha38, Ga38⟩ := id ((((V_u0.ext E28).other W31 (Nat.ne_of_lt (Nat.lt_of_lt_of_le V_u0.lt (Nat.le_of_eq g28.symm)))).other W34 (Nat.ne_of_lt (Nat.lt_of_lt_of_le V_u0.lt (Nat.le_of_eq g28.symm)))).other W37 (Nat.ne_of_lt (Nat.lt_of_lt_of_le V_u0.lt (Nat.le_of_eq g28.symm))))
  have hi38 := inb_of (j := (3 : Int32)) Sa38 ⟨by decide, by decide⟩
  have st38 := X37.daload hx (j := (3 : Int32)) (v := (.double d3)) (by rw [e37]; exact Ar38.1) (State.isArrayOf_alike hZ.alike Ar38.2.1) Ar38.2.2 hi38 (Has.at Ha38 hi38 rfl) (g := (mkF m 123 #[.val (.ref u0), .val (.int (3 : Int32)), .val (.double fv25), .second, .val (.ref b28), .val (.int (1 : Int32))] [(.int (3 : Int32)), (.ref u0), (.int (3 : Int32)), (.ref b28)])) rfl rfl (hb hby d2_123)
  obtain ⟨cl39, Ar39, qa39, Sa39, Na39, Ha39, Ga39⟩ := id V37
  obtain ⟨T40, h40, X40, e40, W40, st40⟩ := stD X37 hx hZ e37 Ar39 (j := (3 : Int32)) (inb_of Sa39 ⟨by decide, by decide⟩) (g := (mkF m 124 #[.val (.ref u0), .val (.int (3 : Int32)), .val (.double fv25), .second, .val (.ref b28), .val (.int (1 : Int32))] [(.double d3), (.int (3 : Int32)), (.ref b28)])) rfl rfl (hb hby d2_124)
  have V40 : Arv Z h40 b28 k28 .double (6 : Int32) [(.double d4), (.double d5), (.double d2), (.double d3), (.double (0 : UInt64)), (.double (0 : UInt64))] (.double (0 : UInt64)) := Arv.set Ar39 qa39 Sa39 Na39 Ha39 Ga39 rfl W40 3 rfl (Nat.le_of_ble_eq_true rfl)
  have N40 := Fr.snoc X40 N37 g_b28
  have Z40 : n0 ≤ h40.size := Nat.le_trans Z37 (Keep.of_wr W40).1
  have KK40 := KK37.wr W40 (Or.inr sz_b28)
  obtain ⟨cl41, Ar41, qa41, Sa41, Na41, Ha41, Ga41⟩ := id (((((V_u0.ext E28).other W31 (Nat.ne_of_lt (Nat.lt_of_lt_of_le V_u0.lt (Nat.le_of_eq g28.symm)))).other W34 (Nat.ne_of_lt (Nat.lt_of_lt_of_le V_u0.lt (Nat.le_of_eq g28.symm)))).other W37 (Nat.ne_of_lt (Nat.lt_of_lt_of_le V_u0.lt (Nat.le_of_eq g28.symm)))).other W40 (Nat.ne_of_lt (Nat.lt_of_lt_of_le V_u0.lt (Nat.le_of_eq g28.symm))))
  have hi41 := inb_of (j := (0 : Int32)) Sa41 ⟨by decide, by decide⟩
  have st41 := X40.daload hx (j := (0 : Int32)) (v := (.double d0)) (by rw [e40]; exact Ar41.1) (State.isArrayOf_alike hZ.alike Ar41.2.1) Ar41.2.2 hi41 (Has.at Ha41 hi41 rfl) (g := (mkF m 102 #[.val (.ref u0), .val (.int (3 : Int32)), .val (.double fv25), .second, .val (.ref b28), .val (.int (2 : Int32))] [(.int (0 : Int32)), (.ref u0), (.int (4 : Int32)), (.ref b28)])) rfl rfl (hb hby d2_102)
  obtain ⟨cl42, Ar42, qa42, Sa42, Na42, Ha42, Ga42⟩ := id V40
  obtain ⟨T43, h43, X43, e43, W43, st43⟩ := stD X40 hx hZ e40 Ar42 (j := (4 : Int32)) (inb_of Sa42 ⟨by decide, by decide⟩) (g := (mkF m 103 #[.val (.ref u0), .val (.int (3 : Int32)), .val (.double fv25), .second, .val (.ref b28), .val (.int (2 : Int32))] [(.double d0), (.int (4 : Int32)), (.ref b28)])) rfl rfl (hb hby d2_103)
  have V43 : Arv Z h43 b28 k28 .double (6 : Int32) [(.double d4), (.double d5), (.double d2), (.double d3), (.double d0), (.double (0 : UInt64))] (.double (0 : UInt64)) := Arv.set Ar42 qa42 Sa42 Na42 Ha42 Ga42 rfl W43 4 rfl (Nat.le_of_ble_eq_true rfl)
  have N43 := Fr.snoc X43 N40 g_b28
  have Z43 : n0 ≤ h43.size := Nat.le_trans Z40 (Keep.of_wr W43).1
  have KK43 := KK40.wr W43 (Or.inr sz_b28)
  obtain ⟨cl44, Ar44, qa44, Sa44, Na44, Ha44, Ga44⟩ := id ((((((V_u0.ext E28).other W31 (Nat.ne_of_lt (Nat.lt_of_lt_of_le V_u0.lt (Nat.le_of_eq g28.symm)))).other W34 (Nat.ne_of_lt (Nat.lt_of_lt_of_le V_u0.lt (Nat.le_of_eq g28.symm)))).other W37 (Nat.ne_of_lt (Nat.lt_of_lt_of_le V_u0.lt (Nat.le_of_eq g28.symm)))).other W40 (Nat.ne_of_lt (Nat.lt_of_lt_of_le V_u0.lt (Nat.le_of_eq g28.symm)))).other W43 (Nat.ne_of_lt (Nat.lt_of_lt_of_le V_u0.lt (Nat.le_of_eq g28.symm))))
  have hi44 := inb_of (j := (1 : Int32)) Sa44 ⟨by decide, by decide⟩
  have st44 := X43.daload hx (j := (1 : Int32)) (v := (.double d1)) (by rw [e43]; exact Ar44.1) (State.isArrayOf_alike hZ.alike Ar44.2.1) Ar44.2.2 hi44 (Has.at Ha44 hi44 rfl) (g := (mkF m 123 #[.val (.ref u0), .val (.int (3 : Int32)), .val (.double fv25), .second, .val (.ref b28), .val (.int (2 : Int32))] [(.int (1 : Int32)), (.ref u0), (.int (5 : Int32)), (.ref b28)])) rfl rfl (hb hby d2_123)
  obtain ⟨cl45, Ar45, qa45, Sa45, Na45, Ha45, Ga45⟩ := id V43
  obtain ⟨T46, h46, X46, e46, W46, st46⟩ := stD X43 hx hZ e43 Ar45 (j := (5 : Int32)) (inb_of Sa45 ⟨by decide, by decide⟩) (g := (mkF m 124 #[.val (.ref u0), .val (.int (3 : Int32)), .val (.double fv25), .second, .val (.ref b28), .val (.int (2 : Int32))] [(.double d1), (.int (5 : Int32)), (.ref b28)])) rfl rfl (hb hby d2_124)
  have V46 : Arv Z h46 b28 k28 .double (6 : Int32) [(.double d4), (.double d5), (.double d2), (.double d3), (.double d0), (.double d1)] (.double (0 : UInt64)) := Arv.set Ar45 qa45 Sa45 Na45 Ha45 Ga45 rfl W46 5 rfl (Nat.le_of_ble_eq_true rfl)
  have N46 := Fr.snoc X46 N43 g_b28
  have Z46 : n0 ≤ h46.size := Nat.le_trans Z43 (Keep.of_wr W46).1
  have KK46 := KK43.wr W46 (Or.inr sz_b28)
  obtain ⟨fs, hr, hrun, hended, hW, hsame⟩ := X46.leave (v := some (.ref b28)) (fun h => by rw [Bd.returns] at h; cases h)
  refine ⟨_, _, pre0 _ ?_, hrun, hended, _, _, rfl, ?_, ⟨_, rfl⟩, hW, hsame.mono (by decide) (by decide)⟩
  · show Steps p.tables e below (s₁.setTop (mkF m 0 #[.val (.ref u0), .unset, .unset, .unset, .unset, .unset] [])) _
    refine XS.aloadN X0.here hx rfl (hb hby d2_0) rfl rfl ?_
    refine st1 _ ?_
    show Steps p.tables e below (s₁.setTop (mkF m 2 #[.val (.ref u0), .unset, .unset, .unset, .unset, .unset] [(.int (6 : Int32))])) _
    refine XS.iconst X0.here hx rfl (hb hby d2_2) ?_
    show Steps p.tables e below (s₁.setTop (mkF m 3 #[.val (.ref u0), .unset, .unset, .unset, .unset, .unset] [(.int (2 : Int32)), (.int (6 : Int32))])) _
    refine XS.idiv X0.here hx rfl (hb hby d2_3) rfl (by decide) ?_
    show Steps p.tables e below (s₁.setTop (mkF m 4 #[.val (.ref u0), .unset, .unset, .unset, .unset, .unset] [(.int (3 : Int32))])) _
    refine XS.istoreN X0.here hx rfl (hb hby d2_4) rfl (l' := #[.val (.ref u0), .val (.int (3 : Int32)), .unset, .unset, .unset, .unset]) rfl ?_
    refine XS.dconst0 X0.here hx rfl (hb hby d2_5) (v := 0) (by decide +kernel) ?_
    refine XS.dstoreN X0.here hx rfl (hb hby d2_6) rfl (l' := #[.val (.ref u0), .val (.int (3 : Int32)), .val (.double (0 : UInt64)), .second, .unset, .unset]) rfl ?_
    refine XS.iconst X0.here hx rfl (hb hby d2_7) ?_
    refine XS.istore X0.here hx rfl (hb hby d2_8) rfl (l' := #[.val (.ref u0), .val (.int (3 : Int32)), .val (.double (0 : UInt64)), .second, .val (.int (0 : Int32)), .unset]) rfl ?_
    refine XS.iload X0.here hx rfl (hb hby d2_10) rfl ?_
    refine XS.iloadN X0.here hx rfl (hb hby d2_12) rfl ?_
    refine XS.icmpNo X0.here hx rfl (hb hby d2_13) rfl (tlt (by decide)).2.1 ?_
    refine XS.iload X0.here hx rfl (hb hby d2_16) rfl ?_
    refine XS.iconst X0.here hx rfl (hb hby d2_18) ?_
    show Steps p.tables e below (s₁.setTop (mkF m 19 #[.val (.ref u0), .val (.int (3 : Int32)), .val (.double (0 : UInt64)), .second, .val (.int (0 : Int32)), .unset] [(.int (1 : Int32)), (.int (0 : Int32))])) _
    refine XS.iadd X0.here hx rfl (hb hby d2_19) rfl ?_
    show Steps p.tables e below (s₁.setTop (mkF m 20 #[.val (.ref u0), .val (.int (3 : Int32)), .val (.double (0 : UInt64)), .second, .val (.int (0 : Int32)), .unset] [(.int (1 : Int32))])) _
    refine XS.iloadN X0.here hx rfl (hb hby d2_20) rfl ?_
    show Steps p.tables e below (s₁.setTop (mkF m 21 #[.val (.ref u0), .val (.int (3 : Int32)), .val (.double (0 : UInt64)), .second, .val (.int (0 : Int32)), .unset] [(.int (3 : Int32)), (.int (1 : Int32))])) _
    refine iremM X0 hx rfl (hb hby d2_21) rfl (by decide) ?_
    show Steps p.tables e below (s₁.setTop (mkF m 22 #[.val (.ref u0), .val (.int (3 : Int32)), .val (.double (0 : UInt64)), .second, .val (.int (0 : Int32)), .unset] [(.int (1 : Int32))])) _
    refine XS.istore X0.here hx rfl (hb hby d2_22) rfl (l' := #[.val (.ref u0), .val (.int (3 : Int32)), .val (.double (0 : UInt64)), .second, .val (.int (0 : Int32)), .val (.int (1 : Int32))]) rfl ?_
    refine XS.dloadN X0.here hx rfl (hb hby d2_24) rfl ?_
    refine XS.aloadN X0.here hx rfl (hb hby d2_25) rfl rfl ?_
    refine XS.iconst X0.here hx rfl (hb hby d2_26) ?_
    refine XS.iload X0.here hx rfl (hb hby d2_27) rfl ?_
    show Steps p.tables e below (s₁.setTop (mkF m 29 #[.val (.ref u0), .val (.int (3 : Int32)), .val (.double (0 : UInt64)), .second, .val (.int (0 : Int32)), .val (.int (1 : Int32))] [(.int (0 : Int32)), (.int (2 : Int32)), (.ref u0), (.double (0 : UInt64))])) _
    refine XS.imul X0.here hx rfl (hb hby d2_29) rfl ?_
    refine st2 _ ?_
    show Steps p.tables e below (s₁.setTop (mkF m 31 #[.val (.ref u0), .val (.int (3 : Int32)), .val (.double (0 : UInt64)), .second, .val (.int (0 : Int32)), .val (.int (1 : Int32))] [(.double d0), (.double (0 : UInt64))])) _
    refine XS.aloadN X0.here hx rfl (hb hby d2_31) rfl rfl ?_
    refine XS.iconst X0.here hx rfl (hb hby d2_32) ?_
    refine XS.iload X0.here hx rfl (hb hby d2_33) rfl ?_
    show Steps p.tables e below (s₁.setTop (mkF m 35 #[.val (.ref u0), .val (.int (3 : Int32)), .val (.double (0 : UInt64)), .second, .val (.int (0 : Int32)), .val (.int (1 : Int32))] [(.int (1 : Int32)), (.int (2 : Int32)), (.ref u0), (.double d0), (.double (0 : UInt64))])) _
    refine XS.imul X0.here hx rfl (hb hby d2_35) rfl ?_
    show Steps p.tables e below (s₁.setTop (mkF m 36 #[.val (.ref u0), .val (.int (3 : Int32)), .val (.double (0 : UInt64)), .second, .val (.int (0 : Int32)), .val (.int (1 : Int32))] [(.int (2 : Int32)), (.ref u0), (.double d0), (.double (0 : UInt64))])) _
    refine XS.iconst X0.here hx rfl (hb hby d2_36) ?_
    show Steps p.tables e below (s₁.setTop (mkF m 37 #[.val (.ref u0), .val (.int (3 : Int32)), .val (.double (0 : UInt64)), .second, .val (.int (0 : Int32)), .val (.int (1 : Int32))] [(.int (1 : Int32)), (.int (2 : Int32)), (.ref u0), (.double d0), (.double (0 : UInt64))])) _
    refine XS.iadd X0.here hx rfl (hb hby d2_37) rfl ?_
    refine st3 _ ?_
    show Steps p.tables e below (s₁.setTop (mkF m 39 #[.val (.ref u0), .val (.int (3 : Int32)), .val (.double (0 : UInt64)), .second, .val (.int (0 : Int32)), .val (.int (1 : Int32))] [(.double d3), (.double d0), (.double (0 : UInt64))])) _
    refine XS.dmulS X0.here hx rfl (hb hby d2_39) rfl (v := fv4) (by rw [← fe4]; exact di4.nn) fe4.symm ?_
    refine XS.aloadN X0.here hx rfl (hb hby d2_40) rfl rfl ?_
    refine XS.iconst X0.here hx rfl (hb hby d2_41) ?_
    refine XS.iload X0.here hx rfl (hb hby d2_42) rfl ?_
    show Steps p.tables e below (s₁.setTop (mkF m 44 #[.val (.ref u0), .val (.int (3 : Int32)), .val (.double (0 : UInt64)), .second, .val (.int (0 : Int32)), .val (.int (1 : Int32))] [(.int (1 : Int32)), (.int (2 : Int32)), (.ref u0), (.double fv4), (.double (0 : UInt64))])) _
    refine XS.imul X0.here hx rfl (hb hby d2_44) rfl ?_
    refine st5 _ ?_
    show Steps p.tables e below (s₁.setTop (mkF m 46 #[.val (.ref u0), .val (.int (3 : Int32)), .val (.double (0 : UInt64)), .second, .val (.int (0 : Int32)), .val (.int (1 : Int32))] [(.double d2), (.double fv4), (.double (0 : UInt64))])) _
    refine XS.aloadN X0.here hx rfl (hb hby d2_46) rfl rfl ?_
    refine XS.iconst X0.here hx rfl (hb hby d2_47) ?_
    refine XS.iload X0.here hx rfl (hb hby d2_48) rfl ?_
    show Steps p.tables e below (s₁.setTop (mkF m 50 #[.val (.ref u0), .val (.int (3 : Int32)), .val (.double (0 : UInt64)), .second, .val (.int (0 : Int32)), .val (.int (1 : Int32))] [(.int (0 : Int32)), (.int (2 : Int32)), (.ref u0), (.double d2), (.double fv4), (.double (0 : UInt64))])) _
    refine XS.imul X0.here hx rfl (hb hby d2_50) rfl ?_
    show Steps p.tables e below (s₁.setTop (mkF m 51 #[.val (.ref u0), .val (.int (3 : Int32)), .val (.double (0 : UInt64)), .second, .val (.int (0 : Int32)), .val (.int (1 : Int32))] [(.int (0 : Int32)), (.ref u0), (.double d2), (.double fv4), (.double (0 : UInt64))])) _
    refine XS.iconst X0.here hx rfl (hb hby d2_51) ?_
    show Steps p.tables e below (s₁.setTop (mkF m 52 #[.val (.ref u0), .val (.int (3 : Int32)), .val (.double (0 : UInt64)), .second, .val (.int (0 : Int32)), .val (.int (1 : Int32))] [(.int (1 : Int32)), (.int (0 : Int32)), (.ref u0), (.double d2), (.double fv4), (.double (0 : UInt64))])) _
    refine XS.iadd X0.here hx rfl (hb hby d2_52) rfl ?_
    refine st6 _ ?_
    show Steps p.tables e below (s₁.setTop (mkF m 54 #[.val (.ref u0), .val (.int (3 : Int32)), .val (.double (0 : UInt64)), .second, .val (.int (0 : Int32)), .val (.int (1 : Int32))] [(.double d1), (.double d2), (.double fv4), (.double (0 : UInt64))])) _
    refine XS.dmulS X0.here hx rfl (hb hby d2_54) rfl (v := fv7) (by rw [← fe7]; exact di7.nn) fe7.symm ?_
    refine XS.dsubS X0.here hx rfl (hb hby d2_55) rfl (v := fv8) (by rw [← fe8]; exact di8.nn) fe8.symm ?_
    refine XS.daddS X0.here hx rfl (hb hby d2_56) rfl (v := fv9) (by rw [← fe9]; exact di9.nn) fe9.symm ?_
    refine XS.dstoreN X0.here hx rfl (hb hby d2_57) rfl (l' := #[.val (.ref u0), .val (.int (3 : Int32)), .val (.double fv9), .second, .val (.int (0 : Int32)), .val (.int (1 : Int32))]) rfl ?_
    show Steps p.tables e below (s₁.setTop (mkF m 58 #[.val (.ref u0), .val (.int (3 : Int32)), .val (.double fv9), .second, .val (.int (0 : Int32)), .val (.int (1 : Int32))] [])) _
    refine XS.iinc X0.here hx rfl (hb hby d2_58) rfl (l' := #[.val (.ref u0), .val (.int (3 : Int32)), .val (.double fv9), .second, .val (.int (1 : Int32)), .val (.int (1 : Int32))]) rfl ?_
    show Steps p.tables e below (s₁.setTop (mkF m 61 #[.val (.ref u0), .val (.int (3 : Int32)), .val (.double fv9), .second, .val (.int (1 : Int32)), .val (.int (1 : Int32))] [])) _
    refine XS.goto X0.here hx rfl (pc0 := 61) (pc' := 10) rfl (hb hby d2_61) (by decide) (by decide) ?_
    refine XS.iload X0.here hx rfl (hb hby d2_10) rfl ?_
    refine XS.iloadN X0.here hx rfl (hb hby d2_12) rfl ?_
    refine XS.icmpNo X0.here hx rfl (hb hby d2_13) rfl (tlt (by decide)).2.1 ?_
    refine XS.iload X0.here hx rfl (hb hby d2_16) rfl ?_
    refine XS.iconst X0.here hx rfl (hb hby d2_18) ?_
    show Steps p.tables e below (s₁.setTop (mkF m 19 #[.val (.ref u0), .val (.int (3 : Int32)), .val (.double fv9), .second, .val (.int (1 : Int32)), .val (.int (1 : Int32))] [(.int (1 : Int32)), (.int (1 : Int32))])) _
    refine XS.iadd X0.here hx rfl (hb hby d2_19) rfl ?_
    show Steps p.tables e below (s₁.setTop (mkF m 20 #[.val (.ref u0), .val (.int (3 : Int32)), .val (.double fv9), .second, .val (.int (1 : Int32)), .val (.int (1 : Int32))] [(.int (2 : Int32))])) _
    refine XS.iloadN X0.here hx rfl (hb hby d2_20) rfl ?_
    show Steps p.tables e below (s₁.setTop (mkF m 21 #[.val (.ref u0), .val (.int (3 : Int32)), .val (.double fv9), .second, .val (.int (1 : Int32)), .val (.int (1 : Int32))] [(.int (3 : Int32)), (.int (2 : Int32))])) _
    refine iremM X0 hx rfl (hb hby d2_21) rfl (by decide) ?_
    show Steps p.tables e below (s₁.setTop (mkF m 22 #[.val (.ref u0), .val (.int (3 : Int32)), .val (.double fv9), .second, .val (.int (1 : Int32)), .val (.int (1 : Int32))] [(.int (2 : Int32))])) _
    refine XS.istore X0.here hx rfl (hb hby d2_22) rfl (l' := #[.val (.ref u0), .val (.int (3 : Int32)), .val (.double fv9), .second, .val (.int (1 : Int32)), .val (.int (2 : Int32))]) rfl ?_
    refine XS.dloadN X0.here hx rfl (hb hby d2_24) rfl ?_
    refine XS.aloadN X0.here hx rfl (hb hby d2_25) rfl rfl ?_
    refine XS.iconst X0.here hx rfl (hb hby d2_26) ?_
    refine XS.iload X0.here hx rfl (hb hby d2_27) rfl ?_
    show Steps p.tables e below (s₁.setTop (mkF m 29 #[.val (.ref u0), .val (.int (3 : Int32)), .val (.double fv9), .second, .val (.int (1 : Int32)), .val (.int (2 : Int32))] [(.int (1 : Int32)), (.int (2 : Int32)), (.ref u0), (.double fv9)])) _
    refine XS.imul X0.here hx rfl (hb hby d2_29) rfl ?_
    refine st10 _ ?_
    show Steps p.tables e below (s₁.setTop (mkF m 31 #[.val (.ref u0), .val (.int (3 : Int32)), .val (.double fv9), .second, .val (.int (1 : Int32)), .val (.int (2 : Int32))] [(.double d2), (.double fv9)])) _
    refine XS.aloadN X0.here hx rfl (hb hby d2_31) rfl rfl ?_
    refine XS.iconst X0.here hx rfl (hb hby d2_32) ?_
    refine XS.iload X0.here hx rfl (hb hby d2_33) rfl ?_
    show Steps p.tables e below (s₁.setTop (mkF m 35 #[.val (.ref u0), .val (.int (3 : Int32)), .val (.double fv9), .second, .val (.int (1 : Int32)), .val (.int (2 : Int32))] [(.int (2 : Int32)), (.int (2 : Int32)), (.ref u0), (.double d2), (.double fv9)])) _
    refine XS.imul X0.here hx rfl (hb hby d2_35) rfl ?_
    show Steps p.tables e below (s₁.setTop (mkF m 36 #[.val (.ref u0), .val (.int (3 : Int32)), .val (.double fv9), .second, .val (.int (1 : Int32)), .val (.int (2 : Int32))] [(.int (4 : Int32)), (.ref u0), (.double d2), (.double fv9)])) _
    refine XS.iconst X0.here hx rfl (hb hby d2_36) ?_
    show Steps p.tables e below (s₁.setTop (mkF m 37 #[.val (.ref u0), .val (.int (3 : Int32)), .val (.double fv9), .second, .val (.int (1 : Int32)), .val (.int (2 : Int32))] [(.int (1 : Int32)), (.int (4 : Int32)), (.ref u0), (.double d2), (.double fv9)])) _
    refine XS.iadd X0.here hx rfl (hb hby d2_37) rfl ?_
    refine st11 _ ?_
    show Steps p.tables e below (s₁.setTop (mkF m 39 #[.val (.ref u0), .val (.int (3 : Int32)), .val (.double fv9), .second, .val (.int (1 : Int32)), .val (.int (2 : Int32))] [(.double d5), (.double d2), (.double fv9)])) _
    refine XS.dmulS X0.here hx rfl (hb hby d2_39) rfl (v := fv12) (by rw [← fe12]; exact di12.nn) fe12.symm ?_
    refine XS.aloadN X0.here hx rfl (hb hby d2_40) rfl rfl ?_
    refine XS.iconst X0.here hx rfl (hb hby d2_41) ?_
    refine XS.iload X0.here hx rfl (hb hby d2_42) rfl ?_
    show Steps p.tables e below (s₁.setTop (mkF m 44 #[.val (.ref u0), .val (.int (3 : Int32)), .val (.double fv9), .second, .val (.int (1 : Int32)), .val (.int (2 : Int32))] [(.int (2 : Int32)), (.int (2 : Int32)), (.ref u0), (.double fv12), (.double fv9)])) _
    refine XS.imul X0.here hx rfl (hb hby d2_44) rfl ?_
    refine st13 _ ?_
    show Steps p.tables e below (s₁.setTop (mkF m 46 #[.val (.ref u0), .val (.int (3 : Int32)), .val (.double fv9), .second, .val (.int (1 : Int32)), .val (.int (2 : Int32))] [(.double d4), (.double fv12), (.double fv9)])) _
    refine XS.aloadN X0.here hx rfl (hb hby d2_46) rfl rfl ?_
    refine XS.iconst X0.here hx rfl (hb hby d2_47) ?_
    refine XS.iload X0.here hx rfl (hb hby d2_48) rfl ?_
    show Steps p.tables e below (s₁.setTop (mkF m 50 #[.val (.ref u0), .val (.int (3 : Int32)), .val (.double fv9), .second, .val (.int (1 : Int32)), .val (.int (2 : Int32))] [(.int (1 : Int32)), (.int (2 : Int32)), (.ref u0), (.double d4), (.double fv12), (.double fv9)])) _
    refine XS.imul X0.here hx rfl (hb hby d2_50) rfl ?_
    show Steps p.tables e below (s₁.setTop (mkF m 51 #[.val (.ref u0), .val (.int (3 : Int32)), .val (.double fv9), .second, .val (.int (1 : Int32)), .val (.int (2 : Int32))] [(.int (2 : Int32)), (.ref u0), (.double d4), (.double fv12), (.double fv9)])) _
    refine XS.iconst X0.here hx rfl (hb hby d2_51) ?_
    show Steps p.tables e below (s₁.setTop (mkF m 52 #[.val (.ref u0), .val (.int (3 : Int32)), .val (.double fv9), .second, .val (.int (1 : Int32)), .val (.int (2 : Int32))] [(.int (1 : Int32)), (.int (2 : Int32)), (.ref u0), (.double d4), (.double fv12), (.double fv9)])) _
    refine XS.iadd X0.here hx rfl (hb hby d2_52) rfl ?_
    refine st14 _ ?_
    show Steps p.tables e below (s₁.setTop (mkF m 54 #[.val (.ref u0), .val (.int (3 : Int32)), .val (.double fv9), .second, .val (.int (1 : Int32)), .val (.int (2 : Int32))] [(.double d3), (.double d4), (.double fv12), (.double fv9)])) _
    refine XS.dmulS X0.here hx rfl (hb hby d2_54) rfl (v := fv15) (by rw [← fe15]; exact di15.nn) fe15.symm ?_
    refine XS.dsubS X0.here hx rfl (hb hby d2_55) rfl (v := fv16) (by rw [← fe16]; exact di16.nn) fe16.symm ?_
    refine XS.daddS X0.here hx rfl (hb hby d2_56) rfl (v := fv17) (by rw [← fe17]; exact di17.nn) fe17.symm ?_
    refine XS.dstoreN X0.here hx rfl (hb hby d2_57) rfl (l' := #[.val (.ref u0), .val (.int (3 : Int32)), .val (.double fv17), .second, .val (.int (1 : Int32)), .val (.int (2 : Int32))]) rfl ?_
    show Steps p.tables e below (s₁.setTop (mkF m 58 #[.val (.ref u0), .val (.int (3 : Int32)), .val (.double fv17), .second, .val (.int (1 : Int32)), .val (.int (2 : Int32))] [])) _
    refine XS.iinc X0.here hx rfl (hb hby d2_58) rfl (l' := #[.val (.ref u0), .val (.int (3 : Int32)), .val (.double fv17), .second, .val (.int (2 : Int32)), .val (.int (2 : Int32))]) rfl ?_
    show Steps p.tables e below (s₁.setTop (mkF m 61 #[.val (.ref u0), .val (.int (3 : Int32)), .val (.double fv17), .second, .val (.int (2 : Int32)), .val (.int (2 : Int32))] [])) _
    refine XS.goto X0.here hx rfl (pc0 := 61) (pc' := 10) rfl (hb hby d2_61) (by decide) (by decide) ?_
    refine XS.iload X0.here hx rfl (hb hby d2_10) rfl ?_
    refine XS.iloadN X0.here hx rfl (hb hby d2_12) rfl ?_
    refine XS.icmpNo X0.here hx rfl (hb hby d2_13) rfl (tlt (by decide)).2.1 ?_
    refine XS.iload X0.here hx rfl (hb hby d2_16) rfl ?_
    refine XS.iconst X0.here hx rfl (hb hby d2_18) ?_
    show Steps p.tables e below (s₁.setTop (mkF m 19 #[.val (.ref u0), .val (.int (3 : Int32)), .val (.double fv17), .second, .val (.int (2 : Int32)), .val (.int (2 : Int32))] [(.int (1 : Int32)), (.int (2 : Int32))])) _
    refine XS.iadd X0.here hx rfl (hb hby d2_19) rfl ?_
    show Steps p.tables e below (s₁.setTop (mkF m 20 #[.val (.ref u0), .val (.int (3 : Int32)), .val (.double fv17), .second, .val (.int (2 : Int32)), .val (.int (2 : Int32))] [(.int (3 : Int32))])) _
    refine XS.iloadN X0.here hx rfl (hb hby d2_20) rfl ?_
    show Steps p.tables e below (s₁.setTop (mkF m 21 #[.val (.ref u0), .val (.int (3 : Int32)), .val (.double fv17), .second, .val (.int (2 : Int32)), .val (.int (2 : Int32))] [(.int (3 : Int32)), (.int (3 : Int32))])) _
    refine iremM X0 hx rfl (hb hby d2_21) rfl (by decide) ?_
    show Steps p.tables e below (s₁.setTop (mkF m 22 #[.val (.ref u0), .val (.int (3 : Int32)), .val (.double fv17), .second, .val (.int (2 : Int32)), .val (.int (2 : Int32))] [(.int (0 : Int32))])) _
    refine XS.istore X0.here hx rfl (hb hby d2_22) rfl (l' := #[.val (.ref u0), .val (.int (3 : Int32)), .val (.double fv17), .second, .val (.int (2 : Int32)), .val (.int (0 : Int32))]) rfl ?_
    refine XS.dloadN X0.here hx rfl (hb hby d2_24) rfl ?_
    refine XS.aloadN X0.here hx rfl (hb hby d2_25) rfl rfl ?_
    refine XS.iconst X0.here hx rfl (hb hby d2_26) ?_
    refine XS.iload X0.here hx rfl (hb hby d2_27) rfl ?_
    show Steps p.tables e below (s₁.setTop (mkF m 29 #[.val (.ref u0), .val (.int (3 : Int32)), .val (.double fv17), .second, .val (.int (2 : Int32)), .val (.int (0 : Int32))] [(.int (2 : Int32)), (.int (2 : Int32)), (.ref u0), (.double fv17)])) _
    refine XS.imul X0.here hx rfl (hb hby d2_29) rfl ?_
    refine st18 _ ?_
    show Steps p.tables e below (s₁.setTop (mkF m 31 #[.val (.ref u0), .val (.int (3 : Int32)), .val (.double fv17), .second, .val (.int (2 : Int32)), .val (.int (0 : Int32))] [(.double d4), (.double fv17)])) _
    refine XS.aloadN X0.here hx rfl (hb hby d2_31) rfl rfl ?_
    refine XS.iconst X0.here hx rfl (hb hby d2_32) ?_
    refine XS.iload X0.here hx rfl (hb hby d2_33) rfl ?_
    show Steps p.tables e below (s₁.setTop (mkF m 35 #[.val (.ref u0), .val (.int (3 : Int32)), .val (.double fv17), .second, .val (.int (2 : Int32)), .val (.int (0 : Int32))] [(.int (0 : Int32)), (.int (2 : Int32)), (.ref u0), (.double d4), (.double fv17)])) _
    refine XS.imul X0.here hx rfl (hb hby d2_35) rfl ?_
    show Steps p.tables e below (s₁.setTop (mkF m 36 #[.val (.ref u0), .val (.int (3 : Int32)), .val (.double fv17), .second, .val (.int (2 : Int32)), .val (.int (0 : Int32))] [(.int (0 : Int32)), (.ref u0), (.double d4), (.double fv17)])) _
    refine XS.iconst X0.here hx rfl (hb hby d2_36) ?_
    show Steps p.tables e below (s₁.setTop (mkF m 37 #[.val (.ref u0), .val (.int (3 : Int32)), .val (.double fv17), .second, .val (.int (2 : Int32)), .val (.int (0 : Int32))] [(.int (1 : Int32)), (.int (0 : Int32)), (.ref u0), (.double d4), (.double fv17)])) _
    refine XS.iadd X0.here hx rfl (hb hby d2_37) rfl ?_
    refine st19 _ ?_
    show Steps p.tables e below (s₁.setTop (mkF m 39 #[.val (.ref u0), .val (.int (3 : Int32)), .val (.double fv17), .second, .val (.int (2 : Int32)), .val (.int (0 : Int32))] [(.double d1), (.double d4), (.double fv17)])) _
    refine XS.dmulS X0.here hx rfl (hb hby d2_39) rfl (v := fv20) (by rw [← fe20]; exact di20.nn) fe20.symm ?_
    refine XS.aloadN X0.here hx rfl (hb hby d2_40) rfl rfl ?_
    refine XS.iconst X0.here hx rfl (hb hby d2_41) ?_
    refine XS.iload X0.here hx rfl (hb hby d2_42) rfl ?_
    show Steps p.tables e below (s₁.setTop (mkF m 44 #[.val (.ref u0), .val (.int (3 : Int32)), .val (.double fv17), .second, .val (.int (2 : Int32)), .val (.int (0 : Int32))] [(.int (0 : Int32)), (.int (2 : Int32)), (.ref u0), (.double fv20), (.double fv17)])) _
    refine XS.imul X0.here hx rfl (hb hby d2_44) rfl ?_
    refine st21 _ ?_
    show Steps p.tables e below (s₁.setTop (mkF m 46 #[.val (.ref u0), .val (.int (3 : Int32)), .val (.double fv17), .second, .val (.int (2 : Int32)), .val (.int (0 : Int32))] [(.double d0), (.double fv20), (.double fv17)])) _
    refine XS.aloadN X0.here hx rfl (hb hby d2_46) rfl rfl ?_
    refine XS.iconst X0.here hx rfl (hb hby d2_47) ?_
    refine XS.iload X0.here hx rfl (hb hby d2_48) rfl ?_
    show Steps p.tables e below (s₁.setTop (mkF m 50 #[.val (.ref u0), .val (.int (3 : Int32)), .val (.double fv17), .second, .val (.int (2 : Int32)), .val (.int (0 : Int32))] [(.int (2 : Int32)), (.int (2 : Int32)), (.ref u0), (.double d0), (.double fv20), (.double fv17)])) _
    refine XS.imul X0.here hx rfl (hb hby d2_50) rfl ?_
    show Steps p.tables e below (s₁.setTop (mkF m 51 #[.val (.ref u0), .val (.int (3 : Int32)), .val (.double fv17), .second, .val (.int (2 : Int32)), .val (.int (0 : Int32))] [(.int (4 : Int32)), (.ref u0), (.double d0), (.double fv20), (.double fv17)])) _
    refine XS.iconst X0.here hx rfl (hb hby d2_51) ?_
    show Steps p.tables e below (s₁.setTop (mkF m 52 #[.val (.ref u0), .val (.int (3 : Int32)), .val (.double fv17), .second, .val (.int (2 : Int32)), .val (.int (0 : Int32))] [(.int (1 : Int32)), (.int (4 : Int32)), (.ref u0), (.double d0), (.double fv20), (.double fv17)])) _
    refine XS.iadd X0.here hx rfl (hb hby d2_52) rfl ?_
    refine st22 _ ?_
    show Steps p.tables e below (s₁.setTop (mkF m 54 #[.val (.ref u0), .val (.int (3 : Int32)), .val (.double fv17), .second, .val (.int (2 : Int32)), .val (.int (0 : Int32))] [(.double d5), (.double d0), (.double fv20), (.double fv17)])) _
    refine XS.dmulS X0.here hx rfl (hb hby d2_54) rfl (v := fv23) (by rw [← fe23]; exact di23.nn) fe23.symm ?_
    refine XS.dsubS X0.here hx rfl (hb hby d2_55) rfl (v := fv24) (by rw [← fe24]; exact di24.nn) fe24.symm ?_
    refine XS.daddS X0.here hx rfl (hb hby d2_56) rfl (v := fv25) (by rw [← fe25]; exact di25.nn) fe25.symm ?_
    refine XS.dstoreN X0.here hx rfl (hb hby d2_57) rfl (l' := #[.val (.ref u0), .val (.int (3 : Int32)), .val (.double fv25), .second, .val (.int (2 : Int32)), .val (.int (0 : Int32))]) rfl ?_
    show Steps p.tables e below (s₁.setTop (mkF m 58 #[.val (.ref u0), .val (.int (3 : Int32)), .val (.double fv25), .second, .val (.int (2 : Int32)), .val (.int (0 : Int32))] [])) _
    refine XS.iinc X0.here hx rfl (hb hby d2_58) rfl (l' := #[.val (.ref u0), .val (.int (3 : Int32)), .val (.double fv25), .second, .val (.int (3 : Int32)), .val (.int (0 : Int32))]) rfl ?_
    show Steps p.tables e below (s₁.setTop (mkF m 61 #[.val (.ref u0), .val (.int (3 : Int32)), .val (.double fv25), .second, .val (.int (3 : Int32)), .val (.int (0 : Int32))] [])) _
    refine XS.goto X0.here hx rfl (pc0 := 61) (pc' := 10) rfl (hb hby d2_61) (by decide) (by decide) ?_
    refine XS.iload X0.here hx rfl (hb hby d2_10) rfl ?_
    refine XS.iloadN X0.here hx rfl (hb hby d2_12) rfl ?_
    refine XS.icmpYes X0.here hx rfl (pc0 := 13) (pc' := 64) rfl (hb hby d2_13) rfl (flt (by decide)).2.1 (by decide) (by decide) ?_
    refine XS.dloadN X0.here hx rfl (hb hby d2_64) rfl ?_
    refine XS.dconst0 X0.here hx rfl (hb hby d2_65) (v := 0) (by decide +kernel) ?_
    refine XS.dcmpS X0.here hx rfl (hb hby d2_66) rfl (v := cv26) ce26.symm ?_
    refine XS.ifYes X0.here hx rfl (pc0 := 67) (pc' := 72) rfl (hb hby d2_67) rfl ((if0 _ _).trans (tlt (by rw [ce26]; exact (DI.cmp di25).mpr hA)).1) (by decide) (by decide) ?_
    refine XS.aloadN X0.here hx rfl (hb hby d2_72) rfl rfl ?_
    refine st27 _ ?_
    refine st28 _ ?_
    show Steps p.tables e below (T28.setTop (mkF m 76 #[.val (.ref u0), .val (.int (3 : Int32)), .val (.double fv25), .second, .val (.int (3 : Int32)), .val (.int (0 : Int32))] [(.ref b28)])) _
    refine XS.astore X28.here hx rfl (hb hby d2_76) rfl rfl (l' := #[.val (.ref u0), .val (.int (3 : Int32)), .val (.double fv25), .second, .val (.ref b28), .val (.int (0 : Int32))]) rfl ?_
    refine XS.iconst X28.here hx rfl (hb hby d2_78) ?_
    refine XS.istore X28.here hx rfl (hb hby d2_79) rfl (l' := #[.val (.ref u0), .val (.int (3 : Int32)), .val (.double fv25), .second, .val (.ref b28), .val (.int (0 : Int32))]) rfl ?_
    refine XS.iload X28.here hx rfl (hb hby d2_81) rfl ?_
    refine XS.iloadN X28.here hx rfl (hb hby d2_83) rfl ?_
    refine XS.icmpNo X28.here hx rfl (hb hby d2_84) rfl (tlt (by decide)).2.1 ?_
    refine XS.aload X28.here hx rfl (hb hby d2_87) rfl rfl ?_
    refine XS.iconst X28.here hx rfl (hb hby d2_89) ?_
    refine XS.iload X28.here hx rfl (hb hby d2_90) rfl ?_
    show Steps p.tables e below (T28.setTop (mkF m 92 #[.val (.ref u0), .val (.int (3 : Int32)), .val (.double fv25), .second, .val (.ref b28), .val (.int (0 : Int32))] [(.int (0 : Int32)), (.int (2 : Int32)), (.ref b28)])) _
    refine XS.imul X28.here hx rfl (hb hby d2_92) rfl ?_
    show Steps p.tables e below (T28.setTop (mkF m 93 #[.val (.ref u0), .val (.int (3 : Int32)), .val (.double fv25), .second, .val (.ref b28), .val (.int (0 : Int32))] [(.int (0 : Int32)), (.ref b28)])) _
    refine XS.aloadN X28.here hx rfl (hb hby d2_93) rfl rfl ?_
    refine XS.iconst X28.here hx rfl (hb hby d2_94) ?_
    refine XS.iloadN X28.here hx rfl (hb hby d2_95) rfl ?_
    refine XS.iconst X28.here hx rfl (hb hby d2_96) ?_
    show Steps p.tables e below (T28.setTop (mkF m 97 #[.val (.ref u0), .val (.int (3 : Int32)), .val (.double fv25), .second, .val (.ref b28), .val (.int (0 : Int32))] [(.int (1 : Int32)), (.int (3 : Int32)), (.int (2 : Int32)), (.ref u0), (.int (0 : Int32)), (.ref b28)])) _
    refine XS.isub X28.here hx rfl (hb hby d2_97) rfl ?_
    show Steps p.tables e below (T28.setTop (mkF m 98 #[.val (.ref u0), .val (.int (3 : Int32)), .val (.double fv25), .second, .val (.ref b28), .val (.int (0 : Int32))] [(.int (2 : Int32)), (.int (2 : Int32)), (.ref u0), (.int (0 : Int32)), (.ref b28)])) _
    refine XS.iload X28.here hx rfl (hb hby d2_98) rfl ?_
    show Steps p.tables e below (T28.setTop (mkF m 100 #[.val (.ref u0), .val (.int (3 : Int32)), .val (.double fv25), .second, .val (.ref b28), .val (.int (0 : Int32))] [(.int (0 : Int32)), (.int (2 : Int32)), (.int (2 : Int32)), (.ref u0), (.int (0 : Int32)), (.ref b28)])) _
    refine XS.isub X28.here hx rfl (hb hby d2_100) rfl ?_
    show Steps p.tables e below (T28.setTop (mkF m 101 #[.val (.ref u0), .val (.int (3 : Int32)), .val (.double fv25), .second, .val (.ref b28), .val (.int (0 : Int32))] [(.int (2 : Int32)), (.int (2 : Int32)), (.ref u0), (.int (0 : Int32)), (.ref b28)])) _
    refine XS.imul X28.here hx rfl (hb hby d2_101) rfl ?_
    refine st29 _ ?_
    refine st31 _ ?_
    show Steps p.tables e below (T31.setTop (mkF m 104 #[.val (.ref u0), .val (.int (3 : Int32)), .val (.double fv25), .second, .val (.ref b28), .val (.int (0 : Int32))] [])) _
    refine XS.aload X31.here hx rfl (hb hby d2_104) rfl rfl ?_
    refine XS.iconst X31.here hx rfl (hb hby d2_106) ?_
    refine XS.iload X31.here hx rfl (hb hby d2_107) rfl ?_
    show Steps p.tables e below (T31.setTop (mkF m 109 #[.val (.ref u0), .val (.int (3 : Int32)), .val (.double fv25), .second, .val (.ref b28), .val (.int (0 : Int32))] [(.int (0 : Int32)), (.int (2 : Int32)), (.ref b28)])) _
    refine XS.imul X31.here hx rfl (hb hby d2_109) rfl ?_
    show Steps p.tables e below (T31.setTop (mkF m 110 #[.val (.ref u0), .val (.int (3 : Int32)), .val (.double fv25), .second, .val (.ref b28), .val (.int (0 : Int32))] [(.int (0 : Int32)), (.ref b28)])) _
    refine XS.iconst X31.here hx rfl (hb hby d2_110) ?_
    show Steps p.tables e below (T31.setTop (mkF m 111 #[.val (.ref u0), .val (.int (3 : Int32)), .val (.double fv25), .second, .val (.ref b28), .val (.int (0 : Int32))] [(.int (1 : Int32)), (.int (0 : Int32)), (.ref b28)])) _
    refine XS.iadd X31.here hx rfl (hb hby d2_111) rfl ?_
    show Steps p.tables e below (T31.setTop (mkF m 112 #[.val (.ref u0), .val (.int (3 : Int32)), .val (.double fv25), .second, .val (.ref b28), .val (.int (0 : Int32))] [(.int (1 : Int32)), (.ref b28)])) _
    refine XS.aloadN X31.here hx rfl (hb hby d2_112) rfl rfl ?_
    refine XS.iconst X31.here hx rfl (hb hby d2_113) ?_
    refine XS.iloadN X31.here hx rfl (hb hby d2_114) rfl ?_
    refine XS.iconst X31.here hx rfl (hb hby d2_115) ?_
    show Steps p.tables e below (T31.setTop (mkF m 116 #[.val (.ref u0), .val (.int (3 : Int32)), .val (.double fv25), .second, .val (.ref b28), .val (.int (0 : Int32))] [(.int (1 : Int32)), (.int (3 : Int32)), (.int (2 : Int32)), (.ref u0), (.int (1 : Int32)), (.ref b28)])) _
    refine XS.isub X31.here hx rfl (hb hby d2_116) rfl ?_
    show Steps p.tables e below (T31.setTop (mkF m 117 #[.val (.ref u0), .val (.int (3 : Int32)), .val (.double fv25), .second, .val (.ref b28), .val (.int (0 : Int32))] [(.int (2 : Int32)), (.int (2 : Int32)), (.ref u0), (.int (1 : Int32)), (.ref b28)])) _
    refine XS.iload X31.here hx rfl (hb hby d2_117) rfl ?_
    show Steps p.tables e below (T31.setTop (mkF m 119 #[.val (.ref u0), .val (.int (3 : Int32)), .val (.double fv25), .second, .val (.ref b28), .val (.int (0 : Int32))] [(.int (0 : Int32)), (.int (2 : Int32)), (.int (2 : Int32)), (.ref u0), (.int (1 : Int32)), (.ref b28)])) _
    refine XS.isub X31.here hx rfl (hb hby d2_119) rfl ?_
    show Steps p.tables e below (T31.setTop (mkF m 120 #[.val (.ref u0), .val (.int (3 : Int32)), .val (.double fv25), .second, .val (.ref b28), .val (.int (0 : Int32))] [(.int (2 : Int32)), (.int (2 : Int32)), (.ref u0), (.int (1 : Int32)), (.ref b28)])) _
    refine XS.imul X31.here hx rfl (hb hby d2_120) rfl ?_
    show Steps p.tables e below (T31.setTop (mkF m 121 #[.val (.ref u0), .val (.int (3 : Int32)), .val (.double fv25), .second, .val (.ref b28), .val (.int (0 : Int32))] [(.int (4 : Int32)), (.ref u0), (.int (1 : Int32)), (.ref b28)])) _
    refine XS.iconst X31.here hx rfl (hb hby d2_121) ?_
    show Steps p.tables e below (T31.setTop (mkF m 122 #[.val (.ref u0), .val (.int (3 : Int32)), .val (.double fv25), .second, .val (.ref b28), .val (.int (0 : Int32))] [(.int (1 : Int32)), (.int (4 : Int32)), (.ref u0), (.int (1 : Int32)), (.ref b28)])) _
    refine XS.iadd X31.here hx rfl (hb hby d2_122) rfl ?_
    refine st32 _ ?_
    refine st34 _ ?_
    show Steps p.tables e below (T34.setTop (mkF m 125 #[.val (.ref u0), .val (.int (3 : Int32)), .val (.double fv25), .second, .val (.ref b28), .val (.int (0 : Int32))] [])) _
    refine XS.iinc X34.here hx rfl (hb hby d2_125) rfl (l' := #[.val (.ref u0), .val (.int (3 : Int32)), .val (.double fv25), .second, .val (.ref b28), .val (.int (1 : Int32))]) rfl ?_
    show Steps p.tables e below (T34.setTop (mkF m 128 #[.val (.ref u0), .val (.int (3 : Int32)), .val (.double fv25), .second, .val (.ref b28), .val (.int (1 : Int32))] [])) _
    refine XS.goto X34.here hx rfl (pc0 := 128) (pc' := 81) rfl (hb hby d2_128) (by decide) (by decide) ?_
    refine XS.iload X34.here hx rfl (hb hby d2_81) rfl ?_
    refine XS.iloadN X34.here hx rfl (hb hby d2_83) rfl ?_
    refine XS.icmpNo X34.here hx rfl (hb hby d2_84) rfl (tlt (by decide)).2.1 ?_
    refine XS.aload X34.here hx rfl (hb hby d2_87) rfl rfl ?_
    refine XS.iconst X34.here hx rfl (hb hby d2_89) ?_
    refine XS.iload X34.here hx rfl (hb hby d2_90) rfl ?_
    show Steps p.tables e below (T34.setTop (mkF m 92 #[.val (.ref u0), .val (.int (3 : Int32)), .val (.double fv25), .second, .val (.ref b28), .val (.int (1 : Int32))] [(.int (1 : Int32)), (.int (2 : Int32)), (.ref b28)])) _
    refine XS.imul X34.here hx rfl (hb hby d2_92) rfl ?_
    show Steps p.tables e below (T34.setTop (mkF m 93 #[.val (.ref u0), .val (.int (3 : Int32)), .val (.double fv25), .second, .val (.ref b28), .val (.int (1 : Int32))] [(.int (2 : Int32)), (.ref b28)])) _
    refine XS.aloadN X34.here hx rfl (hb hby d2_93) rfl rfl ?_
    refine XS.iconst X34.here hx rfl (hb hby d2_94) ?_
    refine XS.iloadN X34.here hx rfl (hb hby d2_95) rfl ?_
    refine XS.iconst X34.here hx rfl (hb hby d2_96) ?_
    show Steps p.tables e below (T34.setTop (mkF m 97 #[.val (.ref u0), .val (.int (3 : Int32)), .val (.double fv25), .second, .val (.ref b28), .val (.int (1 : Int32))] [(.int (1 : Int32)), (.int (3 : Int32)), (.int (2 : Int32)), (.ref u0), (.int (2 : Int32)), (.ref b28)])) _
    refine XS.isub X34.here hx rfl (hb hby d2_97) rfl ?_
    show Steps p.tables e below (T34.setTop (mkF m 98 #[.val (.ref u0), .val (.int (3 : Int32)), .val (.double fv25), .second, .val (.ref b28), .val (.int (1 : Int32))] [(.int (2 : Int32)), (.int (2 : Int32)), (.ref u0), (.int (2 : Int32)), (.ref b28)])) _
    refine XS.iload X34.here hx rfl (hb hby d2_98) rfl ?_
    show Steps p.tables e below (T34.setTop (mkF m 100 #[.val (.ref u0), .val (.int (3 : Int32)), .val (.double fv25), .second, .val (.ref b28), .val (.int (1 : Int32))] [(.int (1 : Int32)), (.int (2 : Int32)), (.int (2 : Int32)), (.ref u0), (.int (2 : Int32)), (.ref b28)])) _
    refine XS.isub X34.here hx rfl (hb hby d2_100) rfl ?_
    show Steps p.tables e below (T34.setTop (mkF m 101 #[.val (.ref u0), .val (.int (3 : Int32)), .val (.double fv25), .second, .val (.ref b28), .val (.int (1 : Int32))] [(.int (1 : Int32)), (.int (2 : Int32)), (.ref u0), (.int (2 : Int32)), (.ref b28)])) _
    refine XS.imul X34.here hx rfl (hb hby d2_101) rfl ?_
    refine st35 _ ?_
    refine st37 _ ?_
    show Steps p.tables e below (T37.setTop (mkF m 104 #[.val (.ref u0), .val (.int (3 : Int32)), .val (.double fv25), .second, .val (.ref b28), .val (.int (1 : Int32))] [])) _
    refine XS.aload X37.here hx rfl (hb hby d2_104) rfl rfl ?_
    refine XS.iconst X37.here hx rfl (hb hby d2_106) ?_
    refine XS.iload X37.here hx rfl (hb hby d2_107) rfl ?_
    show Steps p.tables e below (T37.setTop (mkF m 109 #[.val (.ref u0), .val (.int (3 : Int32)), .val (.double fv25), .second, .val (.ref b28), .val (.int (1 : Int32))] [(.int (1 : Int32)), (.int (2 : Int32)), (.ref b28)])) _
    refine XS.imul X37.here hx rfl (hb hby d2_109) rfl ?_
    show Steps p.tables e below (T37.setTop (mkF m 110 #[.val (.ref u0), .val (.int (3 : Int32)), .val (.double fv25), .second, .val (.ref b28), .val (.int (1 : Int32))] [(.int (2 : Int32)), (.ref b28)])) _
    refine XS.iconst X37.here hx rfl (hb hby d2_110) ?_
    show Steps p.tables e below (T37.setTop (mkF m 111 #[.val (.ref u0), .val (.int (3 : Int32)), .val (.double fv25), .second, .val (.ref b28), .val (.int (1 : Int32))] [(.int (1 : Int32)), (.int (2 : Int32)), (.ref b28)])) _
    refine XS.iadd X37.here hx rfl (hb hby d2_111) rfl ?_
    show Steps p.tables e below (T37.setTop (mkF m 112 #[.val (.ref u0), .val (.int (3 : Int32)), .val (.double fv25), .second, .val (.ref b28), .val (.int (1 : Int32))] [(.int (3 : Int32)), (.ref b28)])) _
    refine XS.aloadN X37.here hx rfl (hb hby d2_112) rfl rfl ?_
    refine XS.iconst X37.here hx rfl (hb hby d2_113) ?_
    refine XS.iloadN X37.here hx rfl (hb hby d2_114) rfl ?_
    refine XS.iconst X37.here hx rfl (hb hby d2_115) ?_
    show Steps p.tables e below (T37.setTop (mkF m 116 #[.val (.ref u0), .val (.int (3 : Int32)), .val (.double fv25), .second, .val (.ref b28), .val (.int (1 : Int32))] [(.int (1 : Int32)), (.int (3 : Int32)), (.int (2 : Int32)), (.ref u0), (.int (3 : Int32)), (.ref b28)])) _
    refine XS.isub X37.here hx rfl (hb hby d2_116) rfl ?_
    show Steps p.tables e below (T37.setTop (mkF m 117 #[.val (.ref u0), .val (.int (3 : Int32)), .val (.double fv25), .second, .val (.ref b28), .val (.int (1 : Int32))] [(.int (2 : Int32)), (.int (2 : Int32)), (.ref u0), (.int (3 : Int32)), (.ref b28)])) _
    refine XS.iload X37.here hx rfl (hb hby d2_117) rfl ?_
    show Steps p.tables e below (T37.setTop (mkF m 119 #[.val (.ref u0), .val (.int (3 : Int32)), .val (.double fv25), .second, .val (.ref b28), .val (.int (1 : Int32))] [(.int (1 : Int32)), (.int (2 : Int32)), (.int (2 : Int32)), (.ref u0), (.int (3 : Int32)), (.ref b28)])) _
    refine XS.isub X37.here hx rfl (hb hby d2_119) rfl ?_
    show Steps p.tables e below (T37.setTop (mkF m 120 #[.val (.ref u0), .val (.int (3 : Int32)), .val (.double fv25), .second, .val (.ref b28), .val (.int (1 : Int32))] [(.int (1 : Int32)), (.int (2 : Int32)), (.ref u0), (.int (3 : Int32)), (.ref b28)])) _
    refine XS.imul X37.here hx rfl (hb hby d2_120) rfl ?_
    show Steps p.tables e below (T37.setTop (mkF m 121 #[.val (.ref u0), .val (.int (3 : Int32)), .val (.double fv25), .second, .val (.ref b28), .val (.int (1 : Int32))] [(.int (2 : Int32)), (.ref u0), (.int (3 : Int32)), (.ref b28)])) _
    refine XS.iconst X37.here hx rfl (hb hby d2_121) ?_
    show Steps p.tables e below (T37.setTop (mkF m 122 #[.val (.ref u0), .val (.int (3 : Int32)), .val (.double fv25), .second, .val (.ref b28), .val (.int (1 : Int32))] [(.int (1 : Int32)), (.int (2 : Int32)), (.ref u0), (.int (3 : Int32)), (.ref b28)])) _
    refine XS.iadd X37.here hx rfl (hb hby d2_122) rfl ?_
    refine st38 _ ?_
    refine st40 _ ?_
    show Steps p.tables e below (T40.setTop (mkF m 125 #[.val (.ref u0), .val (.int (3 : Int32)), .val (.double fv25), .second, .val (.ref b28), .val (.int (1 : Int32))] [])) _
    refine XS.iinc X40.here hx rfl (hb hby d2_125) rfl (l' := #[.val (.ref u0), .val (.int (3 : Int32)), .val (.double fv25), .second, .val (.ref b28), .val (.int (2 : Int32))]) rfl ?_
    show Steps p.tables e below (T40.setTop (mkF m 128 #[.val (.ref u0), .val (.int (3 : Int32)), .val (.double fv25), .second, .val (.ref b28), .val (.int (2 : Int32))] [])) _
    refine XS.goto X40.here hx rfl (pc0 := 128) (pc' := 81) rfl (hb hby d2_128) (by decide) (by decide) ?_
    refine XS.iload X40.here hx rfl (hb hby d2_81) rfl ?_
    refine XS.iloadN X40.here hx rfl (hb hby d2_83) rfl ?_
    refine XS.icmpNo X40.here hx rfl (hb hby d2_84) rfl (tlt (by decide)).2.1 ?_
    refine XS.aload X40.here hx rfl (hb hby d2_87) rfl rfl ?_
    refine XS.iconst X40.here hx rfl (hb hby d2_89) ?_
    refine XS.iload X40.here hx rfl (hb hby d2_90) rfl ?_
    show Steps p.tables e below (T40.setTop (mkF m 92 #[.val (.ref u0), .val (.int (3 : Int32)), .val (.double fv25), .second, .val (.ref b28), .val (.int (2 : Int32))] [(.int (2 : Int32)), (.int (2 : Int32)), (.ref b28)])) _
    refine XS.imul X40.here hx rfl (hb hby d2_92) rfl ?_
    show Steps p.tables e below (T40.setTop (mkF m 93 #[.val (.ref u0), .val (.int (3 : Int32)), .val (.double fv25), .second, .val (.ref b28), .val (.int (2 : Int32))] [(.int (4 : Int32)), (.ref b28)])) _
    refine XS.aloadN X40.here hx rfl (hb hby d2_93) rfl rfl ?_
    refine XS.iconst X40.here hx rfl (hb hby d2_94) ?_
    refine XS.iloadN X40.here hx rfl (hb hby d2_95) rfl ?_
    refine XS.iconst X40.here hx rfl (hb hby d2_96) ?_
    show Steps p.tables e below (T40.setTop (mkF m 97 #[.val (.ref u0), .val (.int (3 : Int32)), .val (.double fv25), .second, .val (.ref b28), .val (.int (2 : Int32))] [(.int (1 : Int32)), (.int (3 : Int32)), (.int (2 : Int32)), (.ref u0), (.int (4 : Int32)), (.ref b28)])) _
    refine XS.isub X40.here hx rfl (hb hby d2_97) rfl ?_
    show Steps p.tables e below (T40.setTop (mkF m 98 #[.val (.ref u0), .val (.int (3 : Int32)), .val (.double fv25), .second, .val (.ref b28), .val (.int (2 : Int32))] [(.int (2 : Int32)), (.int (2 : Int32)), (.ref u0), (.int (4 : Int32)), (.ref b28)])) _
    refine XS.iload X40.here hx rfl (hb hby d2_98) rfl ?_
    show Steps p.tables e below (T40.setTop (mkF m 100 #[.val (.ref u0), .val (.int (3 : Int32)), .val (.double fv25), .second, .val (.ref b28), .val (.int (2 : Int32))] [(.int (2 : Int32)), (.int (2 : Int32)), (.int (2 : Int32)), (.ref u0), (.int (4 : Int32)), (.ref b28)])) _
    refine XS.isub X40.here hx rfl (hb hby d2_100) rfl ?_
    show Steps p.tables e below (T40.setTop (mkF m 101 #[.val (.ref u0), .val (.int (3 : Int32)), .val (.double fv25), .second, .val (.ref b28), .val (.int (2 : Int32))] [(.int (0 : Int32)), (.int (2 : Int32)), (.ref u0), (.int (4 : Int32)), (.ref b28)])) _
    refine XS.imul X40.here hx rfl (hb hby d2_101) rfl ?_
    refine st41 _ ?_
    refine st43 _ ?_
    show Steps p.tables e below (T43.setTop (mkF m 104 #[.val (.ref u0), .val (.int (3 : Int32)), .val (.double fv25), .second, .val (.ref b28), .val (.int (2 : Int32))] [])) _
    refine XS.aload X43.here hx rfl (hb hby d2_104) rfl rfl ?_
    refine XS.iconst X43.here hx rfl (hb hby d2_106) ?_
    refine XS.iload X43.here hx rfl (hb hby d2_107) rfl ?_
    show Steps p.tables e below (T43.setTop (mkF m 109 #[.val (.ref u0), .val (.int (3 : Int32)), .val (.double fv25), .second, .val (.ref b28), .val (.int (2 : Int32))] [(.int (2 : Int32)), (.int (2 : Int32)), (.ref b28)])) _
    refine XS.imul X43.here hx rfl (hb hby d2_109) rfl ?_
    show Steps p.tables e below (T43.setTop (mkF m 110 #[.val (.ref u0), .val (.int (3 : Int32)), .val (.double fv25), .second, .val (.ref b28), .val (.int (2 : Int32))] [(.int (4 : Int32)), (.ref b28)])) _
    refine XS.iconst X43.here hx rfl (hb hby d2_110) ?_
    show Steps p.tables e below (T43.setTop (mkF m 111 #[.val (.ref u0), .val (.int (3 : Int32)), .val (.double fv25), .second, .val (.ref b28), .val (.int (2 : Int32))] [(.int (1 : Int32)), (.int (4 : Int32)), (.ref b28)])) _
    refine XS.iadd X43.here hx rfl (hb hby d2_111) rfl ?_
    show Steps p.tables e below (T43.setTop (mkF m 112 #[.val (.ref u0), .val (.int (3 : Int32)), .val (.double fv25), .second, .val (.ref b28), .val (.int (2 : Int32))] [(.int (5 : Int32)), (.ref b28)])) _
    refine XS.aloadN X43.here hx rfl (hb hby d2_112) rfl rfl ?_
    refine XS.iconst X43.here hx rfl (hb hby d2_113) ?_
    refine XS.iloadN X43.here hx rfl (hb hby d2_114) rfl ?_
    refine XS.iconst X43.here hx rfl (hb hby d2_115) ?_
    show Steps p.tables e below (T43.setTop (mkF m 116 #[.val (.ref u0), .val (.int (3 : Int32)), .val (.double fv25), .second, .val (.ref b28), .val (.int (2 : Int32))] [(.int (1 : Int32)), (.int (3 : Int32)), (.int (2 : Int32)), (.ref u0), (.int (5 : Int32)), (.ref b28)])) _
    refine XS.isub X43.here hx rfl (hb hby d2_116) rfl ?_
    show Steps p.tables e below (T43.setTop (mkF m 117 #[.val (.ref u0), .val (.int (3 : Int32)), .val (.double fv25), .second, .val (.ref b28), .val (.int (2 : Int32))] [(.int (2 : Int32)), (.int (2 : Int32)), (.ref u0), (.int (5 : Int32)), (.ref b28)])) _
    refine XS.iload X43.here hx rfl (hb hby d2_117) rfl ?_
    show Steps p.tables e below (T43.setTop (mkF m 119 #[.val (.ref u0), .val (.int (3 : Int32)), .val (.double fv25), .second, .val (.ref b28), .val (.int (2 : Int32))] [(.int (2 : Int32)), (.int (2 : Int32)), (.int (2 : Int32)), (.ref u0), (.int (5 : Int32)), (.ref b28)])) _
    refine XS.isub X43.here hx rfl (hb hby d2_119) rfl ?_
    show Steps p.tables e below (T43.setTop (mkF m 120 #[.val (.ref u0), .val (.int (3 : Int32)), .val (.double fv25), .second, .val (.ref b28), .val (.int (2 : Int32))] [(.int (0 : Int32)), (.int (2 : Int32)), (.ref u0), (.int (5 : Int32)), (.ref b28)])) _
    refine XS.imul X43.here hx rfl (hb hby d2_120) rfl ?_
    show Steps p.tables e below (T43.setTop (mkF m 121 #[.val (.ref u0), .val (.int (3 : Int32)), .val (.double fv25), .second, .val (.ref b28), .val (.int (2 : Int32))] [(.int (0 : Int32)), (.ref u0), (.int (5 : Int32)), (.ref b28)])) _
    refine XS.iconst X43.here hx rfl (hb hby d2_121) ?_
    show Steps p.tables e below (T43.setTop (mkF m 122 #[.val (.ref u0), .val (.int (3 : Int32)), .val (.double fv25), .second, .val (.ref b28), .val (.int (2 : Int32))] [(.int (1 : Int32)), (.int (0 : Int32)), (.ref u0), (.int (5 : Int32)), (.ref b28)])) _
    refine XS.iadd X43.here hx rfl (hb hby d2_122) rfl ?_
    refine st44 _ ?_
    refine st46 _ ?_
    show Steps p.tables e below (T46.setTop (mkF m 125 #[.val (.ref u0), .val (.int (3 : Int32)), .val (.double fv25), .second, .val (.ref b28), .val (.int (2 : Int32))] [])) _
    refine XS.iinc X46.here hx rfl (hb hby d2_125) rfl (l' := #[.val (.ref u0), .val (.int (3 : Int32)), .val (.double fv25), .second, .val (.ref b28), .val (.int (3 : Int32))]) rfl ?_
    show Steps p.tables e below (T46.setTop (mkF m 128 #[.val (.ref u0), .val (.int (3 : Int32)), .val (.double fv25), .second, .val (.ref b28), .val (.int (3 : Int32))] [])) _
    refine XS.goto X46.here hx rfl (pc0 := 128) (pc' := 81) rfl (hb hby d2_128) (by decide) (by decide) ?_
    refine XS.iload X46.here hx rfl (hb hby d2_81) rfl ?_
    refine XS.iloadN X46.here hx rfl (hb hby d2_83) rfl ?_
    refine XS.icmpYes X46.here hx rfl (pc0 := 84) (pc' := 131) rfl (hb hby d2_84) rfl (flt (by decide)).2.1 (by decide) (by decide) ?_
    refine XS.aload X46.here hx rfl (hb hby d2_131) rfl rfl ?_
    show Steps p.tables e below (T46.setTop (mkF m 133 #[.val (.ref u0), .val (.int (3 : Int32)), .val (.double fv25), .second, .val (.ref b28), .val (.int (3 : Int32))] [(.ref b28)])) _
    jvm_step X46.here [X46.here.top, hx, (hb hby d2_133), X46.method', Bd.returns, Value.isRef, FieldType.isReference]
    first | (intro acts; rw [hr _ acts rfl rfl rfl]) | rw [hr _ _ rfl rfl rfl]
    exact Steps.refl _
  · show QC3n Z u0 k_u0 d0 d1 d2 d3 d4 d5 x0 x1 x2 x3 x4 x5 h0 n0 _ T46.heap _
    rw [e46]
    exact ⟨(by rw [g28]), N46, KK46, _, (by rw [← g28]; exact V46)⟩
theorem ef_C4 (m : MethodId) (u0 : Addr) : entryFrame m #[(.ref u0)] 6 = mkF m 0 #[.val (.ref u0), .unset, .unset, .unset, .unset, .unset] [] := by first | (simp [entryFrame, mkF, argsToLocals, Value.category]; done) | rfl
def QC4 (Z : State) (u0 : Addr) (k_u0 : ClassId) (d0 : UInt64) (d1 : UInt64) (d2 : UInt64) (d3 : UInt64) (d4 : UInt64) (d5 : UInt64) (d6 : UInt64) (d7 : UInt64) (x0 : Int) (x1 : Int) (x2 : Int) (x3 : Int) (x4 : Int) (x5 : Int) (x6 : Int) (x7 : Int) (h0 : Heap) (n0 : Nat) (v : Option Value) (h : Heap) (L : List Loc) : Prop := v = some (.ref u0) ∧ Fr n0 L ∧ h = h0
set_option maxRecDepth 65536 in
set_option maxHeartbeats 40000000 in
theorem rmC4 (l : Launch) (Z : State) (a0 : Array Value) (hw : ∀ d ∈ tables_1, d.before a0 Z = true) (ws : List Jvm.Cond) (u0 : Addr) (k_u0 : ClassId) (d0 : UInt64) (d1 : UInt64) (d2 : UInt64) (d3 : UInt64) (d4 : UInt64) (d5 : UInt64) (d6 : UInt64) (d7 : UInt64) (x0 : Int) (x1 : Int) (x2 : Int) (x3 : Int) (x4 : Int) (x5 : Int) (x6 : Int) (x7 : Int) (h0 : Heap) (n0 : Nat) (Z0 : n0 ≤ h0.size) (V_u0 : Arv Z h0 u0 k_u0 .double (8 : Int32) [(.double d0), (.double d1), (.double d2), (.double d3), (.double d4), (.double d5), (.double d6), (.double d7)] (.double (0 : UInt64))) (D0 : DI x0 32768 d0) (D1 : DI x1 32768 d1) (D2 : DI x2 32768 d2) (D3 : DI x3 32768 d3) (D4 : DI x4 32768 d4) (D5 : DI x5 32768 d5) (D6 : DI x6 32768 d6) (D7 : DI x7 32768 d7) (hA : ¬ ((((((0 : Int) + ((x0 * x3) - (x2 * x1))) + ((x2 * x5) - (x4 * x3))) + ((x4 * x7) - (x6 * x5))) + ((x6 * x1) - (x0 * x7))) < 0)) :
    MetFree l (⟨"com/example/decorum/decorum/graphics/Rasterizer", "clockwise", "([D)[D"⟩ : MethodName) (head1 (Jvm.Cond.code (⟨"com/example/decorum/decorum/graphics/Rasterizer", "clockwise", "([D)[D"⟩ : MethodName) prog_81_method_4_code 6 (some (.array .double)) :: ws) ({ frames := 0, cells := 0, slots := 0, locals := 0 } : Room)) (fun a U => a = #[(.ref u0)] ∧ Z.Warmed39 U.vm ∧ U.heap = h0) (fun _ _ _ _ _ => True) (fun _ U o U' => ∃ v L, o = .returned v ∧ QC4 Z u0 k_u0 d0 d1 d2 d3 d4 d5 d6 d7 x0 x1 x2 x3 x4 x5 x6 x7 h0 n0 v U'.heap L ∧ FrameEnd U o U' L ({ frames := 0, cells := 0, slots := 0, locals := 0 } : Room).cells ({ frames := 0, cells := 0, slots := 0, locals := 0 } : Room).slots) := by
  refine MetFree.of_bodySF (plainFor_of_name pn_com_example_decorum_decorum_graphics_Rasterizer) hisR ?_
  intro p e s m args below meth c s₁ Bd hml0 hP hK
  obtain ⟨rfl, hZ, hh⟩ := hP
  have hx := Bd.exec
  have hby := Bd.bytes
  have hml : c.maxLocals = 6 := hml0
  have hown : s.vm.findClass "com/example/decorum/decorum/graphics/Rasterizer" = some m.cls := findClass_of_methodNamed Bd.named
  have hnm := (name_of_methodNamed Bd.named Bd.method).1
  have X0 : Stand p l e ({ frames := 0, cells := 0, slots := 0, locals := 0 } : Room) s m #[(.ref u0)] below meth c s₁ [] 0 0 := Stand.of_body Bd
  have e0 : s₁.heap = h0 := by rw [← hh, Bd.state]; rfl
  have N0 := Fr.nil n0
  have pre0 : ∀ t, Steps p.tables e below (s₁.setTop (mkF m 0 #[.val (.ref u0), .unset, .unset, .unset, .unset, .unset] [])) t → Steps p.tables e below (s₁.setTop (entryFrame m #[(.ref u0)] 6)) t := fun t k => castTop (ef_C4 m u0) k
  obtain ⟨cl1, Ar1, qa1, Sa1, Na1, Ha1, Ga1⟩ := id V_u0
  have st1 := X0.arraylength hx (by rw [e0]; exact Ar1.1) (State.isArrayOf_alike hZ.alike Ar1.2.1) (g := (mkF m 1 #[.val (.ref u0), .unset, .unset, .unset, .unset, .unset] [(.ref u0)])) rfl rfl (hb hby d2_1)
  rw [len_of Sa1 Na1] at st1
  have hi2 := inb_of (j := (0 : Int32)) Sa1 ⟨by decide, by decide⟩
  have st2 := X0.daload hx (j := (0 : Int32)) (v := (.double d0)) (by rw [e0]; exact Ar1.1) (State.isArrayOf_alike hZ.alike Ar1.2.1) Ar1.2.2 hi2 (Has.at Ha1 hi2 rfl) (g := (mkF m 30 #[.val (.ref u0), .val (.int (4 : Int32)), .val (.double (0 : UInt64)), .second, .val (.int (0 : Int32)), .val (.int (1 : Int32))] [(.int (0 : Int32)), (.ref u0), (.double (0 : UInt64))])) rfl rfl (hb hby d2_30)
  have hi3 := inb_of (j := (3 : Int32)) Sa1 ⟨by decide, by decide⟩
  have st3 := X0.daload hx (j := (3 : Int32)) (v := (.double d3)) (by rw [e0]; exact Ar1.1) (State.isArrayOf_alike hZ.alike Ar1.2.1) Ar1.2.2 hi3 (Has.at Ha1 hi3 rfl) (g := (mkF m 38 #[.val (.ref u0), .val (.int (4 : Int32)), .val (.double (0 : UInt64)), .second, .val (.int (0 : Int32)), .val (.int (1 : Int32))] [(.int (3 : Int32)), (.ref u0), (.double d0), (.double (0 : UInt64))])) rfl rfl (hb hby d2_38)
  obtain ⟨fv4, fe4⟩ : ∃ z, z = FP.dmul d0 d3 := ⟨_, rfl⟩
  have di4 : DI (x0 * x3) 1073741824 fv4 := DI.mul D0 D3 fe4 (by decide)
  have hi5 := inb_of (j := (2 : Int32)) Sa1 ⟨by decide, by decide⟩
  have st5 := X0.daload hx (j := (2 : Int32)) (v := (.double d2)) (by rw [e0]; exact Ar1.1) (State.isArrayOf_alike hZ.alike Ar1.2.1) Ar1.2.2 hi5 (Has.at Ha1 hi5 rfl) (g := (mkF m 45 #[.val (.ref u0), .val (.int (4 : Int32)), .val (.double (0 : UInt64)), .second, .val (.int (0 : Int32)), .val (.int (1 : Int32))] [(.int (2 : Int32)), (.ref u0), (.double fv4), (.double (0 : UInt64))])) rfl rfl (hb hby d2_45)
  have hi6 := inb_of (j := (1 : Int32)) Sa1 ⟨by decide, by decide⟩
  have st6 := X0.daload hx (j := (1 : Int32)) (v := (.double d1)) (by rw [e0]; exact Ar1.1) (State.isArrayOf_alike hZ.alike Ar1.2.1) Ar1.2.2 hi6 (Has.at Ha1 hi6 rfl) (g := (mkF m 53 #[.val (.ref u0), .val (.int (4 : Int32)), .val (.double (0 : UInt64)), .second, .val (.int (0 : Int32)), .val (.int (1 : Int32))] [(.int (1 : Int32)), (.ref u0), (.double d2), (.double fv4), (.double (0 : UInt64))])) rfl rfl (hb hby d2_53)
  obtain ⟨fv7, fe7⟩ : ∃ z, z = FP.dmul d2 d1 := ⟨_, rfl⟩
  have di7 : DI (x2 * x1) 1073741824 fv7 := DI.mul D2 D1 fe7 (by decide)
  obtain ⟨fv8, fe8⟩ : ∃ z, z = FP.dsub fv4 fv7 := ⟨_, rfl⟩
  have di8 : DI ((x0 * x3) - (x2 * x1)) 2147483648 fv8 := DI.sub di4 di7 fe8 (by decide)
  obtain ⟨fv9, fe9⟩ : ∃ z, z = FP.dadd (0 : UInt64) fv8 := ⟨_, rfl⟩
  have di9 : DI ((0 : Int) + ((x0 * x3) - (x2 * x1))) 2147483648 fv9 := DI.add DI.zero di8 fe9 (by decide)
  have hi10 := inb_of (j := (2 : Int32)) Sa1 ⟨by decide, by decide⟩
  have st10 := X0.daload hx (j := (2 : Int32)) (v := (.double d2)) (by rw [e0]; exact Ar1.1) (State.isArrayOf_alike hZ.alike Ar1.2.1) Ar1.2.2 hi10 (Has.at Ha1 hi10 rfl) (g := (mkF m 30 #[.val (.ref u0), .val (.int (4 : Int32)), .val (.double fv9), .second, .val (.int (1 : Int32)), .val (.int (2 : Int32))] [(.int (2 : Int32)), (.ref u0), (.double fv9)])) rfl rfl (hb hby d2_30)
  have hi11 := inb_of (j := (5 : Int32)) Sa1 ⟨by decide, by decide⟩
  have st11 := X0.daload hx (j := (5 : Int32)) (v := (.double d5)) (by rw [e0]; exact Ar1.1) (State.isArrayOf_alike hZ.alike Ar1.2.1) Ar1.2.2 hi11 (Has.at Ha1 hi11 rfl) (g := (mkF m 38 #[.val (.ref u0), .val (.int (4 : Int32)), .val (.double fv9), .second, .val (.int (1 : Int32)), .val (.int (2 : Int32))] [(.int (5 : Int32)), (.ref u0), (.double d2), (.double fv9)])) rfl rfl (hb hby d2_38)
  obtain ⟨fv12, fe12⟩ : ∃ z, z = FP.dmul d2 d5 := ⟨_, rfl⟩
  have di12 : DI (x2 * x5) 1073741824 fv12 := DI.mul D2 D5 fe12 (by decide)
  have hi13 := inb_of (j := (4 : Int32)) Sa1 ⟨by decide, by decide⟩
  have st13 := X0.daload hx (j := (4 : Int32)) (v := (.double d4)) (by rw [e0]; exact Ar1.1) (State.isArrayOf_alike hZ.alike Ar1.2.1) Ar1.2.2 hi13 (Has.at Ha1 hi13 rfl) (g := (mkF m 45 #[.val (.ref u0), .val (.int (4 : Int32)), .val (.double fv9), .second, .val (.int (1 : Int32)), .val (.int (2 : Int32))] [(.int (4 : Int32)), (.ref u0), (.double fv12), (.double fv9)])) rfl rfl (hb hby d2_45)
  have hi14 := inb_of (j := (3 : Int32)) Sa1 ⟨by decide, by decide⟩
  have st14 := X0.daload hx (j := (3 : Int32)) (v := (.double d3)) (by rw [e0]; exact Ar1.1) (State.isArrayOf_alike hZ.alike Ar1.2.1) Ar1.2.2 hi14 (Has.at Ha1 hi14 rfl) (g := (mkF m 53 #[.val (.ref u0), .val (.int (4 : Int32)), .val (.double fv9), .second, .val (.int (1 : Int32)), .val (.int (2 : Int32))] [(.int (3 : Int32)), (.ref u0), (.double d4), (.double fv12), (.double fv9)])) rfl rfl (hb hby d2_53)
  obtain ⟨fv15, fe15⟩ : ∃ z, z = FP.dmul d4 d3 := ⟨_, rfl⟩
  have di15 : DI (x4 * x3) 1073741824 fv15 := DI.mul D4 D3 fe15 (by decide)
  obtain ⟨fv16, fe16⟩ : ∃ z, z = FP.dsub fv12 fv15 := ⟨_, rfl⟩
  have di16 : DI ((x2 * x5) - (x4 * x3)) 2147483648 fv16 := DI.sub di12 di15 fe16 (by decide)
  obtain ⟨fv17, fe17⟩ : ∃ z, z = FP.dadd fv9 fv16 := ⟨_, rfl⟩
  have di17 : DI (((0 : Int) + ((x0 * x3) - (x2 * x1))) + ((x2 * x5) - (x4 * x3))) 4294967296 fv17 := DI.add di9 di16 fe17 (by decide)
  have hi18 := inb_of (j := (4 : Int32)) Sa1 ⟨by decide, by decide⟩
  have st18 := X0.daload hx (j := (4 : Int32)) (v := (.double d4)) (by rw [e0]; exact Ar1.1) (State.isArrayOf_alike hZ.alike Ar1.2.1) Ar1.2.2 hi18 (Has.at Ha1 hi18 rfl) (g := (mkF m 30 #[.val (.ref u0), .val (.int (4 : Int32)), .val (.double fv17), .second, .val (.int (2 : Int32)), .val (.int (3 : Int32))] [(.int (4 : Int32)), (.ref u0), (.double fv17)])) rfl rfl (hb hby d2_30)
  have hi19 := inb_of (j := (7 : Int32)) Sa1 ⟨by decide, by decide⟩
  have st19 := X0.daload hx (j := (7 : Int32)) (v := (.double d7)) (by rw [e0]; exact Ar1.1) (State.isArrayOf_alike hZ.alike Ar1.2.1) Ar1.2.2 hi19 (Has.at Ha1 hi19 rfl) (g := (mkF m 38 #[.val (.ref u0), .val (.int (4 : Int32)), .val (.double fv17), .second, .val (.int (2 : Int32)), .val (.int (3 : Int32))] [(.int (7 : Int32)), (.ref u0), (.double d4), (.double fv17)])) rfl rfl (hb hby d2_38)
  obtain ⟨fv20, fe20⟩ : ∃ z, z = FP.dmul d4 d7 := ⟨_, rfl⟩
  have di20 : DI (x4 * x7) 1073741824 fv20 := DI.mul D4 D7 fe20 (by decide)
  have hi21 := inb_of (j := (6 : Int32)) Sa1 ⟨by decide, by decide⟩
  have st21 := X0.daload hx (j := (6 : Int32)) (v := (.double d6)) (by rw [e0]; exact Ar1.1) (State.isArrayOf_alike hZ.alike Ar1.2.1) Ar1.2.2 hi21 (Has.at Ha1 hi21 rfl) (g := (mkF m 45 #[.val (.ref u0), .val (.int (4 : Int32)), .val (.double fv17), .second, .val (.int (2 : Int32)), .val (.int (3 : Int32))] [(.int (6 : Int32)), (.ref u0), (.double fv20), (.double fv17)])) rfl rfl (hb hby d2_45)
  have hi22 := inb_of (j := (5 : Int32)) Sa1 ⟨by decide, by decide⟩
  have st22 := X0.daload hx (j := (5 : Int32)) (v := (.double d5)) (by rw [e0]; exact Ar1.1) (State.isArrayOf_alike hZ.alike Ar1.2.1) Ar1.2.2 hi22 (Has.at Ha1 hi22 rfl) (g := (mkF m 53 #[.val (.ref u0), .val (.int (4 : Int32)), .val (.double fv17), .second, .val (.int (2 : Int32)), .val (.int (3 : Int32))] [(.int (5 : Int32)), (.ref u0), (.double d6), (.double fv20), (.double fv17)])) rfl rfl (hb hby d2_53)
  obtain ⟨fv23, fe23⟩ : ∃ z, z = FP.dmul d6 d5 := ⟨_, rfl⟩
  have di23 : DI (x6 * x5) 1073741824 fv23 := DI.mul D6 D5 fe23 (by decide)
  obtain ⟨fv24, fe24⟩ : ∃ z, z = FP.dsub fv20 fv23 := ⟨_, rfl⟩
  have di24 : DI ((x4 * x7) - (x6 * x5)) 2147483648 fv24 := DI.sub di20 di23 fe24 (by decide)
  obtain ⟨fv25, fe25⟩ : ∃ z, z = FP.dadd fv17 fv24 := ⟨_, rfl⟩
  have di25 : DI ((((0 : Int) + ((x0 * x3) - (x2 * x1))) + ((x2 * x5) - (x4 * x3))) + ((x4 * x7) - (x6 * x5))) 6442450944 fv25 := DI.add di17 di24 fe25 (by decide)
  have hi26 := inb_of (j := (6 : Int32)) Sa1 ⟨by decide, by decide⟩
  have st26 := X0.daload hx (j := (6 : Int32)) (v := (.double d6)) (by rw [e0]; exact Ar1.1) (State.isArrayOf_alike hZ.alike Ar1.2.1) Ar1.2.2 hi26 (Has.at Ha1 hi26 rfl) (g := (mkF m 30 #[.val (.ref u0), .val (.int (4 : Int32)), .val (.double fv25), .second, .val (.int (3 : Int32)), .val (.int (0 : Int32))] [(.int (6 : Int32)), (.ref u0), (.double fv25)])) rfl rfl (hb hby d2_30)
  have hi27 := inb_of (j := (1 : Int32)) Sa1 ⟨by decide, by decide⟩
  have st27 := X0.daload hx (j := (1 : Int32)) (v := (.double d1)) (by rw [e0]; exact Ar1.1) (State.isArrayOf_alike hZ.alike Ar1.2.1) Ar1.2.2 hi27 (Has.at Ha1 hi27 rfl) (g := (mkF m 38 #[.val (.ref u0), .val (.int (4 : Int32)), .val (.double fv25), .second, .val (.int (3 : Int32)), .val (.int (0 : Int32))] [(.int (1 : Int32)), (.ref u0), (.double d6), (.double fv25)])) rfl rfl (hb hby d2_38)
  obtain ⟨fv28, fe28⟩ : ∃ z, z = FP.dmul d6 d1 := ⟨_, rfl⟩
  have di28 : DI (x6 * x1) 1073741824 fv28 := DI.mul D6 D1 fe28 (by decide)
  have hi29 := inb_of (j := (0 : Int32)) Sa1 ⟨by decide, by decide⟩
  have st29 := X0.daload hx (j := (0 : Int32)) (v := (.double d0)) (by rw [e0]; exact Ar1.1) (State.isArrayOf_alike hZ.alike Ar1.2.1) Ar1.2.2 hi29 (Has.at Ha1 hi29 rfl) (g := (mkF m 45 #[.val (.ref u0), .val (.int (4 : Int32)), .val (.double fv25), .second, .val (.int (3 : Int32)), .val (.int (0 : Int32))] [(.int (0 : Int32)), (.ref u0), (.double fv28), (.double fv25)])) rfl rfl (hb hby d2_45)
  have hi30 := inb_of (j := (7 : Int32)) Sa1 ⟨by decide, by decide⟩
  have st30 := X0.daload hx (j := (7 : Int32)) (v := (.double d7)) (by rw [e0]; exact Ar1.1) (State.isArrayOf_alike hZ.alike Ar1.2.1) Ar1.2.2 hi30 (Has.at Ha1 hi30 rfl) (g := (mkF m 53 #[.val (.ref u0), .val (.int (4 : Int32)), .val (.double fv25), .second, .val (.int (3 : Int32)), .val (.int (0 : Int32))] [(.int (7 : Int32)), (.ref u0), (.double d0), (.double fv28), (.double fv25)])) rfl rfl (hb hby d2_53)
  obtain ⟨fv31, fe31⟩ : ∃ z, z = FP.dmul d0 d7 := ⟨_, rfl⟩
  have di31 : DI (x0 * x7) 1073741824 fv31 := DI.mul D0 D7 fe31 (by decide)
  obtain ⟨fv32, fe32⟩ : ∃ z, z = FP.dsub fv28 fv31 := ⟨_, rfl⟩
  have di32 : DI ((x6 * x1) - (x0 * x7)) 2147483648 fv32 := DI.sub di28 di31 fe32 (by decide)
  obtain ⟨fv33, fe33⟩ : ∃ z, z = FP.dadd fv25 fv32 := ⟨_, rfl⟩
  have di33 : DI (((((0 : Int) + ((x0 * x3) - (x2 * x1))) + ((x2 * x5) - (x4 * x3))) + ((x4 * x7) - (x6 * x5))) + ((x6 * x1) - (x0 * x7))) 8589934592 fv33 := DI.add di25 di32 fe33 (by decide)
  obtain ⟨cv34, ce34⟩ : ∃ z, z = cmpValue (FP.dcmp fv33 (0 : UInt64)) .l := ⟨_, rfl⟩
  obtain ⟨fs, hr, hrun, hended, hW, hsame⟩ := X0.leave (v := some (.ref u0)) (fun h => by rw [Bd.returns] at h; cases h)
  refine ⟨_, _, pre0 _ ?_, hrun, hended, _, _, rfl, ?_, ⟨_, rfl⟩, hW, hsame.mono (by decide) (by decide)⟩
  · show Steps p.tables e below (s₁.setTop (mkF m 0 #[.val (.ref u0), .unset, .unset, .unset, .unset, .unset] [])) _
    refine XS.aloadN X0.here hx rfl (hb hby d2_0) rfl rfl ?_
    refine st1 _ ?_
    show Steps p.tables e below (s₁.setTop (mkF m 2 #[.val (.ref u0), .unset, .unset, .unset, .unset, .unset] [(.int (8 : Int32))])) _
    refine XS.iconst X0.here hx rfl (hb hby d2_2) ?_
    show Steps p.tables e below (s₁.setTop (mkF m 3 #[.val (.ref u0), .unset, .unset, .unset, .unset, .unset] [(.int (2 : Int32)), (.int (8 : Int32))])) _
    refine XS.idiv X0.here hx rfl (hb hby d2_3) rfl (by decide) ?_
    show Steps p.tables e below (s₁.setTop (mkF m 4 #[.val (.ref u0), .unset, .unset, .unset, .unset, .unset] [(.int (4 : Int32))])) _
    refine XS.istoreN X0.here hx rfl (hb hby d2_4) rfl (l' := #[.val (.ref u0), .val (.int (4 : Int32)), .unset, .unset, .unset, .unset]) rfl ?_
    refine XS.dconst0 X0.here hx rfl (hb hby d2_5) (v := 0) (by decide +kernel) ?_
    refine XS.dstoreN X0.here hx rfl (hb hby d2_6) rfl (l' := #[.val (.ref u0), .val (.int (4 : Int32)), .val (.double (0 : UInt64)), .second, .unset, .unset]) rfl ?_
    refine XS.iconst X0.here hx rfl (hb hby d2_7) ?_
    refine XS.istore X0.here hx rfl (hb hby d2_8) rfl (l' := #[.val (.ref u0), .val (.int (4 : Int32)), .val (.double (0 : UInt64)), .second, .val (.int (0 : Int32)), .unset]) rfl ?_
    refine XS.iload X0.here hx rfl (hb hby d2_10) rfl ?_
    refine XS.iloadN X0.here hx rfl (hb hby d2_12) rfl ?_
    refine XS.icmpNo X0.here hx rfl (hb hby d2_13) rfl (tlt (by decide)).2.1 ?_
    refine XS.iload X0.here hx rfl (hb hby d2_16) rfl ?_
    refine XS.iconst X0.here hx rfl (hb hby d2_18) ?_
    show Steps p.tables e below (s₁.setTop (mkF m 19 #[.val (.ref u0), .val (.int (4 : Int32)), .val (.double (0 : UInt64)), .second, .val (.int (0 : Int32)), .unset] [(.int (1 : Int32)), (.int (0 : Int32))])) _
    refine XS.iadd X0.here hx rfl (hb hby d2_19) rfl ?_
    show Steps p.tables e below (s₁.setTop (mkF m 20 #[.val (.ref u0), .val (.int (4 : Int32)), .val (.double (0 : UInt64)), .second, .val (.int (0 : Int32)), .unset] [(.int (1 : Int32))])) _
    refine XS.iloadN X0.here hx rfl (hb hby d2_20) rfl ?_
    show Steps p.tables e below (s₁.setTop (mkF m 21 #[.val (.ref u0), .val (.int (4 : Int32)), .val (.double (0 : UInt64)), .second, .val (.int (0 : Int32)), .unset] [(.int (4 : Int32)), (.int (1 : Int32))])) _
    refine iremM X0 hx rfl (hb hby d2_21) rfl (by decide) ?_
    show Steps p.tables e below (s₁.setTop (mkF m 22 #[.val (.ref u0), .val (.int (4 : Int32)), .val (.double (0 : UInt64)), .second, .val (.int (0 : Int32)), .unset] [(.int (1 : Int32))])) _
    refine XS.istore X0.here hx rfl (hb hby d2_22) rfl (l' := #[.val (.ref u0), .val (.int (4 : Int32)), .val (.double (0 : UInt64)), .second, .val (.int (0 : Int32)), .val (.int (1 : Int32))]) rfl ?_
    refine XS.dloadN X0.here hx rfl (hb hby d2_24) rfl ?_
    refine XS.aloadN X0.here hx rfl (hb hby d2_25) rfl rfl ?_
    refine XS.iconst X0.here hx rfl (hb hby d2_26) ?_
    refine XS.iload X0.here hx rfl (hb hby d2_27) rfl ?_
    show Steps p.tables e below (s₁.setTop (mkF m 29 #[.val (.ref u0), .val (.int (4 : Int32)), .val (.double (0 : UInt64)), .second, .val (.int (0 : Int32)), .val (.int (1 : Int32))] [(.int (0 : Int32)), (.int (2 : Int32)), (.ref u0), (.double (0 : UInt64))])) _
    refine XS.imul X0.here hx rfl (hb hby d2_29) rfl ?_
    refine st2 _ ?_
    show Steps p.tables e below (s₁.setTop (mkF m 31 #[.val (.ref u0), .val (.int (4 : Int32)), .val (.double (0 : UInt64)), .second, .val (.int (0 : Int32)), .val (.int (1 : Int32))] [(.double d0), (.double (0 : UInt64))])) _
    refine XS.aloadN X0.here hx rfl (hb hby d2_31) rfl rfl ?_
    refine XS.iconst X0.here hx rfl (hb hby d2_32) ?_
    refine XS.iload X0.here hx rfl (hb hby d2_33) rfl ?_
    show Steps p.tables e below (s₁.setTop (mkF m 35 #[.val (.ref u0), .val (.int (4 : Int32)), .val (.double (0 : UInt64)), .second, .val (.int (0 : Int32)), .val (.int (1 : Int32))] [(.int (1 : Int32)), (.int (2 : Int32)), (.ref u0), (.double d0), (.double (0 : UInt64))])) _
    refine XS.imul X0.here hx rfl (hb hby d2_35) rfl ?_
    show Steps p.tables e below (s₁.setTop (mkF m 36 #[.val (.ref u0), .val (.int (4 : Int32)), .val (.double (0 : UInt64)), .second, .val (.int (0 : Int32)), .val (.int (1 : Int32))] [(.int (2 : Int32)), (.ref u0), (.double d0), (.double (0 : UInt64))])) _
    refine XS.iconst X0.here hx rfl (hb hby d2_36) ?_
    show Steps p.tables e below (s₁.setTop (mkF m 37 #[.val (.ref u0), .val (.int (4 : Int32)), .val (.double (0 : UInt64)), .second, .val (.int (0 : Int32)), .val (.int (1 : Int32))] [(.int (1 : Int32)), (.int (2 : Int32)), (.ref u0), (.double d0), (.double (0 : UInt64))])) _
    refine XS.iadd X0.here hx rfl (hb hby d2_37) rfl ?_
    refine st3 _ ?_
    show Steps p.tables e below (s₁.setTop (mkF m 39 #[.val (.ref u0), .val (.int (4 : Int32)), .val (.double (0 : UInt64)), .second, .val (.int (0 : Int32)), .val (.int (1 : Int32))] [(.double d3), (.double d0), (.double (0 : UInt64))])) _
    refine XS.dmulS X0.here hx rfl (hb hby d2_39) rfl (v := fv4) (by rw [← fe4]; exact di4.nn) fe4.symm ?_
    refine XS.aloadN X0.here hx rfl (hb hby d2_40) rfl rfl ?_
    refine XS.iconst X0.here hx rfl (hb hby d2_41) ?_
    refine XS.iload X0.here hx rfl (hb hby d2_42) rfl ?_
    show Steps p.tables e below (s₁.setTop (mkF m 44 #[.val (.ref u0), .val (.int (4 : Int32)), .val (.double (0 : UInt64)), .second, .val (.int (0 : Int32)), .val (.int (1 : Int32))] [(.int (1 : Int32)), (.int (2 : Int32)), (.ref u0), (.double fv4), (.double (0 : UInt64))])) _
    refine XS.imul X0.here hx rfl (hb hby d2_44) rfl ?_
    refine st5 _ ?_
    show Steps p.tables e below (s₁.setTop (mkF m 46 #[.val (.ref u0), .val (.int (4 : Int32)), .val (.double (0 : UInt64)), .second, .val (.int (0 : Int32)), .val (.int (1 : Int32))] [(.double d2), (.double fv4), (.double (0 : UInt64))])) _
    refine XS.aloadN X0.here hx rfl (hb hby d2_46) rfl rfl ?_
    refine XS.iconst X0.here hx rfl (hb hby d2_47) ?_
    refine XS.iload X0.here hx rfl (hb hby d2_48) rfl ?_
    show Steps p.tables e below (s₁.setTop (mkF m 50 #[.val (.ref u0), .val (.int (4 : Int32)), .val (.double (0 : UInt64)), .second, .val (.int (0 : Int32)), .val (.int (1 : Int32))] [(.int (0 : Int32)), (.int (2 : Int32)), (.ref u0), (.double d2), (.double fv4), (.double (0 : UInt64))])) _
    refine XS.imul X0.here hx rfl (hb hby d2_50) rfl ?_
    show Steps p.tables e below (s₁.setTop (mkF m 51 #[.val (.ref u0), .val (.int (4 : Int32)), .val (.double (0 : UInt64)), .second, .val (.int (0 : Int32)), .val (.int (1 : Int32))] [(.int (0 : Int32)), (.ref u0), (.double d2), (.double fv4), (.double (0 : UInt64))])) _
    refine XS.iconst X0.here hx rfl (hb hby d2_51) ?_
    show Steps p.tables e below (s₁.setTop (mkF m 52 #[.val (.ref u0), .val (.int (4 : Int32)), .val (.double (0 : UInt64)), .second, .val (.int (0 : Int32)), .val (.int (1 : Int32))] [(.int (1 : Int32)), (.int (0 : Int32)), (.ref u0), (.double d2), (.double fv4), (.double (0 : UInt64))])) _
    refine XS.iadd X0.here hx rfl (hb hby d2_52) rfl ?_
    refine st6 _ ?_
    show Steps p.tables e below (s₁.setTop (mkF m 54 #[.val (.ref u0), .val (.int (4 : Int32)), .val (.double (0 : UInt64)), .second, .val (.int (0 : Int32)), .val (.int (1 : Int32))] [(.double d1), (.double d2), (.double fv4), (.double (0 : UInt64))])) _
    refine XS.dmulS X0.here hx rfl (hb hby d2_54) rfl (v := fv7) (by rw [← fe7]; exact di7.nn) fe7.symm ?_
    refine XS.dsubS X0.here hx rfl (hb hby d2_55) rfl (v := fv8) (by rw [← fe8]; exact di8.nn) fe8.symm ?_
    refine XS.daddS X0.here hx rfl (hb hby d2_56) rfl (v := fv9) (by rw [← fe9]; exact di9.nn) fe9.symm ?_
    refine XS.dstoreN X0.here hx rfl (hb hby d2_57) rfl (l' := #[.val (.ref u0), .val (.int (4 : Int32)), .val (.double fv9), .second, .val (.int (0 : Int32)), .val (.int (1 : Int32))]) rfl ?_
    show Steps p.tables e below (s₁.setTop (mkF m 58 #[.val (.ref u0), .val (.int (4 : Int32)), .val (.double fv9), .second, .val (.int (0 : Int32)), .val (.int (1 : Int32))] [])) _
    refine XS.iinc X0.here hx rfl (hb hby d2_58) rfl (l' := #[.val (.ref u0), .val (.int (4 : Int32)), .val (.double fv9), .second, .val (.int (1 : Int32)), .val (.int (1 : Int32))]) rfl ?_
    show Steps p.tables e below (s₁.setTop (mkF m 61 #[.val (.ref u0), .val (.int (4 : Int32)), .val (.double fv9), .second, .val (.int (1 : Int32)), .val (.int (1 : Int32))] [])) _
    refine XS.goto X0.here hx rfl (pc0 := 61) (pc' := 10) rfl (hb hby d2_61) (by decide) (by decide) ?_
    refine XS.iload X0.here hx rfl (hb hby d2_10) rfl ?_
    refine XS.iloadN X0.here hx rfl (hb hby d2_12) rfl ?_
    refine XS.icmpNo X0.here hx rfl (hb hby d2_13) rfl (tlt (by decide)).2.1 ?_
    refine XS.iload X0.here hx rfl (hb hby d2_16) rfl ?_
    refine XS.iconst X0.here hx rfl (hb hby d2_18) ?_
    show Steps p.tables e below (s₁.setTop (mkF m 19 #[.val (.ref u0), .val (.int (4 : Int32)), .val (.double fv9), .second, .val (.int (1 : Int32)), .val (.int (1 : Int32))] [(.int (1 : Int32)), (.int (1 : Int32))])) _
    refine XS.iadd X0.here hx rfl (hb hby d2_19) rfl ?_
    show Steps p.tables e below (s₁.setTop (mkF m 20 #[.val (.ref u0), .val (.int (4 : Int32)), .val (.double fv9), .second, .val (.int (1 : Int32)), .val (.int (1 : Int32))] [(.int (2 : Int32))])) _
    refine XS.iloadN X0.here hx rfl (hb hby d2_20) rfl ?_
    show Steps p.tables e below (s₁.setTop (mkF m 21 #[.val (.ref u0), .val (.int (4 : Int32)), .val (.double fv9), .second, .val (.int (1 : Int32)), .val (.int (1 : Int32))] [(.int (4 : Int32)), (.int (2 : Int32))])) _
    refine iremM X0 hx rfl (hb hby d2_21) rfl (by decide) ?_
    show Steps p.tables e below (s₁.setTop (mkF m 22 #[.val (.ref u0), .val (.int (4 : Int32)), .val (.double fv9), .second, .val (.int (1 : Int32)), .val (.int (1 : Int32))] [(.int (2 : Int32))])) _
    refine XS.istore X0.here hx rfl (hb hby d2_22) rfl (l' := #[.val (.ref u0), .val (.int (4 : Int32)), .val (.double fv9), .second, .val (.int (1 : Int32)), .val (.int (2 : Int32))]) rfl ?_
    refine XS.dloadN X0.here hx rfl (hb hby d2_24) rfl ?_
    refine XS.aloadN X0.here hx rfl (hb hby d2_25) rfl rfl ?_
    refine XS.iconst X0.here hx rfl (hb hby d2_26) ?_
    refine XS.iload X0.here hx rfl (hb hby d2_27) rfl ?_
    show Steps p.tables e below (s₁.setTop (mkF m 29 #[.val (.ref u0), .val (.int (4 : Int32)), .val (.double fv9), .second, .val (.int (1 : Int32)), .val (.int (2 : Int32))] [(.int (1 : Int32)), (.int (2 : Int32)), (.ref u0), (.double fv9)])) _
    refine XS.imul X0.here hx rfl (hb hby d2_29) rfl ?_
    refine st10 _ ?_
    show Steps p.tables e below (s₁.setTop (mkF m 31 #[.val (.ref u0), .val (.int (4 : Int32)), .val (.double fv9), .second, .val (.int (1 : Int32)), .val (.int (2 : Int32))] [(.double d2), (.double fv9)])) _
    refine XS.aloadN X0.here hx rfl (hb hby d2_31) rfl rfl ?_
    refine XS.iconst X0.here hx rfl (hb hby d2_32) ?_
    refine XS.iload X0.here hx rfl (hb hby d2_33) rfl ?_
    show Steps p.tables e below (s₁.setTop (mkF m 35 #[.val (.ref u0), .val (.int (4 : Int32)), .val (.double fv9), .second, .val (.int (1 : Int32)), .val (.int (2 : Int32))] [(.int (2 : Int32)), (.int (2 : Int32)), (.ref u0), (.double d2), (.double fv9)])) _
    refine XS.imul X0.here hx rfl (hb hby d2_35) rfl ?_
    show Steps p.tables e below (s₁.setTop (mkF m 36 #[.val (.ref u0), .val (.int (4 : Int32)), .val (.double fv9), .second, .val (.int (1 : Int32)), .val (.int (2 : Int32))] [(.int (4 : Int32)), (.ref u0), (.double d2), (.double fv9)])) _
    refine XS.iconst X0.here hx rfl (hb hby d2_36) ?_
    show Steps p.tables e below (s₁.setTop (mkF m 37 #[.val (.ref u0), .val (.int (4 : Int32)), .val (.double fv9), .second, .val (.int (1 : Int32)), .val (.int (2 : Int32))] [(.int (1 : Int32)), (.int (4 : Int32)), (.ref u0), (.double d2), (.double fv9)])) _
    refine XS.iadd X0.here hx rfl (hb hby d2_37) rfl ?_
    refine st11 _ ?_
    show Steps p.tables e below (s₁.setTop (mkF m 39 #[.val (.ref u0), .val (.int (4 : Int32)), .val (.double fv9), .second, .val (.int (1 : Int32)), .val (.int (2 : Int32))] [(.double d5), (.double d2), (.double fv9)])) _
    refine XS.dmulS X0.here hx rfl (hb hby d2_39) rfl (v := fv12) (by rw [← fe12]; exact di12.nn) fe12.symm ?_
    refine XS.aloadN X0.here hx rfl (hb hby d2_40) rfl rfl ?_
    refine XS.iconst X0.here hx rfl (hb hby d2_41) ?_
    refine XS.iload X0.here hx rfl (hb hby d2_42) rfl ?_
    show Steps p.tables e below (s₁.setTop (mkF m 44 #[.val (.ref u0), .val (.int (4 : Int32)), .val (.double fv9), .second, .val (.int (1 : Int32)), .val (.int (2 : Int32))] [(.int (2 : Int32)), (.int (2 : Int32)), (.ref u0), (.double fv12), (.double fv9)])) _
    refine XS.imul X0.here hx rfl (hb hby d2_44) rfl ?_
    refine st13 _ ?_
    show Steps p.tables e below (s₁.setTop (mkF m 46 #[.val (.ref u0), .val (.int (4 : Int32)), .val (.double fv9), .second, .val (.int (1 : Int32)), .val (.int (2 : Int32))] [(.double d4), (.double fv12), (.double fv9)])) _
    refine XS.aloadN X0.here hx rfl (hb hby d2_46) rfl rfl ?_
    refine XS.iconst X0.here hx rfl (hb hby d2_47) ?_
    refine XS.iload X0.here hx rfl (hb hby d2_48) rfl ?_
    show Steps p.tables e below (s₁.setTop (mkF m 50 #[.val (.ref u0), .val (.int (4 : Int32)), .val (.double fv9), .second, .val (.int (1 : Int32)), .val (.int (2 : Int32))] [(.int (1 : Int32)), (.int (2 : Int32)), (.ref u0), (.double d4), (.double fv12), (.double fv9)])) _
    refine XS.imul X0.here hx rfl (hb hby d2_50) rfl ?_
    show Steps p.tables e below (s₁.setTop (mkF m 51 #[.val (.ref u0), .val (.int (4 : Int32)), .val (.double fv9), .second, .val (.int (1 : Int32)), .val (.int (2 : Int32))] [(.int (2 : Int32)), (.ref u0), (.double d4), (.double fv12), (.double fv9)])) _
    refine XS.iconst X0.here hx rfl (hb hby d2_51) ?_
    show Steps p.tables e below (s₁.setTop (mkF m 52 #[.val (.ref u0), .val (.int (4 : Int32)), .val (.double fv9), .second, .val (.int (1 : Int32)), .val (.int (2 : Int32))] [(.int (1 : Int32)), (.int (2 : Int32)), (.ref u0), (.double d4), (.double fv12), (.double fv9)])) _
    refine XS.iadd X0.here hx rfl (hb hby d2_52) rfl ?_
    refine st14 _ ?_
    show Steps p.tables e below (s₁.setTop (mkF m 54 #[.val (.ref u0), .val (.int (4 : Int32)), .val (.double fv9), .second, .val (.int (1 : Int32)), .val (.int (2 : Int32))] [(.double d3), (.double d4), (.double fv12), (.double fv9)])) _
    refine XS.dmulS X0.here hx rfl (hb hby d2_54) rfl (v := fv15) (by rw [← fe15]; exact di15.nn) fe15.symm ?_
    refine XS.dsubS X0.here hx rfl (hb hby d2_55) rfl (v := fv16) (by rw [← fe16]; exact di16.nn) fe16.symm ?_
    refine XS.daddS X0.here hx rfl (hb hby d2_56) rfl (v := fv17) (by rw [← fe17]; exact di17.nn) fe17.symm ?_
    refine XS.dstoreN X0.here hx rfl (hb hby d2_57) rfl (l' := #[.val (.ref u0), .val (.int (4 : Int32)), .val (.double fv17), .second, .val (.int (1 : Int32)), .val (.int (2 : Int32))]) rfl ?_
    show Steps p.tables e below (s₁.setTop (mkF m 58 #[.val (.ref u0), .val (.int (4 : Int32)), .val (.double fv17), .second, .val (.int (1 : Int32)), .val (.int (2 : Int32))] [])) _
    refine XS.iinc X0.here hx rfl (hb hby d2_58) rfl (l' := #[.val (.ref u0), .val (.int (4 : Int32)), .val (.double fv17), .second, .val (.int (2 : Int32)), .val (.int (2 : Int32))]) rfl ?_
    show Steps p.tables e below (s₁.setTop (mkF m 61 #[.val (.ref u0), .val (.int (4 : Int32)), .val (.double fv17), .second, .val (.int (2 : Int32)), .val (.int (2 : Int32))] [])) _
    refine XS.goto X0.here hx rfl (pc0 := 61) (pc' := 10) rfl (hb hby d2_61) (by decide) (by decide) ?_
    refine XS.iload X0.here hx rfl (hb hby d2_10) rfl ?_
    refine XS.iloadN X0.here hx rfl (hb hby d2_12) rfl ?_
    refine XS.icmpNo X0.here hx rfl (hb hby d2_13) rfl (tlt (by decide)).2.1 ?_
    refine XS.iload X0.here hx rfl (hb hby d2_16) rfl ?_
    refine XS.iconst X0.here hx rfl (hb hby d2_18) ?_
    show Steps p.tables e below (s₁.setTop (mkF m 19 #[.val (.ref u0), .val (.int (4 : Int32)), .val (.double fv17), .second, .val (.int (2 : Int32)), .val (.int (2 : Int32))] [(.int (1 : Int32)), (.int (2 : Int32))])) _
    refine XS.iadd X0.here hx rfl (hb hby d2_19) rfl ?_
    show Steps p.tables e below (s₁.setTop (mkF m 20 #[.val (.ref u0), .val (.int (4 : Int32)), .val (.double fv17), .second, .val (.int (2 : Int32)), .val (.int (2 : Int32))] [(.int (3 : Int32))])) _
    refine XS.iloadN X0.here hx rfl (hb hby d2_20) rfl ?_
    show Steps p.tables e below (s₁.setTop (mkF m 21 #[.val (.ref u0), .val (.int (4 : Int32)), .val (.double fv17), .second, .val (.int (2 : Int32)), .val (.int (2 : Int32))] [(.int (4 : Int32)), (.int (3 : Int32))])) _
    refine iremM X0 hx rfl (hb hby d2_21) rfl (by decide) ?_
    show Steps p.tables e below (s₁.setTop (mkF m 22 #[.val (.ref u0), .val (.int (4 : Int32)), .val (.double fv17), .second, .val (.int (2 : Int32)), .val (.int (2 : Int32))] [(.int (3 : Int32))])) _
    refine XS.istore X0.here hx rfl (hb hby d2_22) rfl (l' := #[.val (.ref u0), .val (.int (4 : Int32)), .val (.double fv17), .second, .val (.int (2 : Int32)), .val (.int (3 : Int32))]) rfl ?_
    refine XS.dloadN X0.here hx rfl (hb hby d2_24) rfl ?_
    refine XS.aloadN X0.here hx rfl (hb hby d2_25) rfl rfl ?_
    refine XS.iconst X0.here hx rfl (hb hby d2_26) ?_
    refine XS.iload X0.here hx rfl (hb hby d2_27) rfl ?_
    show Steps p.tables e below (s₁.setTop (mkF m 29 #[.val (.ref u0), .val (.int (4 : Int32)), .val (.double fv17), .second, .val (.int (2 : Int32)), .val (.int (3 : Int32))] [(.int (2 : Int32)), (.int (2 : Int32)), (.ref u0), (.double fv17)])) _
    refine XS.imul X0.here hx rfl (hb hby d2_29) rfl ?_
    refine st18 _ ?_
    show Steps p.tables e below (s₁.setTop (mkF m 31 #[.val (.ref u0), .val (.int (4 : Int32)), .val (.double fv17), .second, .val (.int (2 : Int32)), .val (.int (3 : Int32))] [(.double d4), (.double fv17)])) _
    refine XS.aloadN X0.here hx rfl (hb hby d2_31) rfl rfl ?_
    refine XS.iconst X0.here hx rfl (hb hby d2_32) ?_
    refine XS.iload X0.here hx rfl (hb hby d2_33) rfl ?_
    show Steps p.tables e below (s₁.setTop (mkF m 35 #[.val (.ref u0), .val (.int (4 : Int32)), .val (.double fv17), .second, .val (.int (2 : Int32)), .val (.int (3 : Int32))] [(.int (3 : Int32)), (.int (2 : Int32)), (.ref u0), (.double d4), (.double fv17)])) _
    refine XS.imul X0.here hx rfl (hb hby d2_35) rfl ?_
    show Steps p.tables e below (s₁.setTop (mkF m 36 #[.val (.ref u0), .val (.int (4 : Int32)), .val (.double fv17), .second, .val (.int (2 : Int32)), .val (.int (3 : Int32))] [(.int (6 : Int32)), (.ref u0), (.double d4), (.double fv17)])) _
    refine XS.iconst X0.here hx rfl (hb hby d2_36) ?_
    show Steps p.tables e below (s₁.setTop (mkF m 37 #[.val (.ref u0), .val (.int (4 : Int32)), .val (.double fv17), .second, .val (.int (2 : Int32)), .val (.int (3 : Int32))] [(.int (1 : Int32)), (.int (6 : Int32)), (.ref u0), (.double d4), (.double fv17)])) _
    refine XS.iadd X0.here hx rfl (hb hby d2_37) rfl ?_
    refine st19 _ ?_
    show Steps p.tables e below (s₁.setTop (mkF m 39 #[.val (.ref u0), .val (.int (4 : Int32)), .val (.double fv17), .second, .val (.int (2 : Int32)), .val (.int (3 : Int32))] [(.double d7), (.double d4), (.double fv17)])) _
    refine XS.dmulS X0.here hx rfl (hb hby d2_39) rfl (v := fv20) (by rw [← fe20]; exact di20.nn) fe20.symm ?_
    refine XS.aloadN X0.here hx rfl (hb hby d2_40) rfl rfl ?_
    refine XS.iconst X0.here hx rfl (hb hby d2_41) ?_
    refine XS.iload X0.here hx rfl (hb hby d2_42) rfl ?_
    show Steps p.tables e below (s₁.setTop (mkF m 44 #[.val (.ref u0), .val (.int (4 : Int32)), .val (.double fv17), .second, .val (.int (2 : Int32)), .val (.int (3 : Int32))] [(.int (3 : Int32)), (.int (2 : Int32)), (.ref u0), (.double fv20), (.double fv17)])) _
    refine XS.imul X0.here hx rfl (hb hby d2_44) rfl ?_
    refine st21 _ ?_
    show Steps p.tables e below (s₁.setTop (mkF m 46 #[.val (.ref u0), .val (.int (4 : Int32)), .val (.double fv17), .second, .val (.int (2 : Int32)), .val (.int (3 : Int32))] [(.double d6), (.double fv20), (.double fv17)])) _
    refine XS.aloadN X0.here hx rfl (hb hby d2_46) rfl rfl ?_
    refine XS.iconst X0.here hx rfl (hb hby d2_47) ?_
    refine XS.iload X0.here hx rfl (hb hby d2_48) rfl ?_
    show Steps p.tables e below (s₁.setTop (mkF m 50 #[.val (.ref u0), .val (.int (4 : Int32)), .val (.double fv17), .second, .val (.int (2 : Int32)), .val (.int (3 : Int32))] [(.int (2 : Int32)), (.int (2 : Int32)), (.ref u0), (.double d6), (.double fv20), (.double fv17)])) _
    refine XS.imul X0.here hx rfl (hb hby d2_50) rfl ?_
    show Steps p.tables e below (s₁.setTop (mkF m 51 #[.val (.ref u0), .val (.int (4 : Int32)), .val (.double fv17), .second, .val (.int (2 : Int32)), .val (.int (3 : Int32))] [(.int (4 : Int32)), (.ref u0), (.double d6), (.double fv20), (.double fv17)])) _
    refine XS.iconst X0.here hx rfl (hb hby d2_51) ?_
    show Steps p.tables e below (s₁.setTop (mkF m 52 #[.val (.ref u0), .val (.int (4 : Int32)), .val (.double fv17), .second, .val (.int (2 : Int32)), .val (.int (3 : Int32))] [(.int (1 : Int32)), (.int (4 : Int32)), (.ref u0), (.double d6), (.double fv20), (.double fv17)])) _
    refine XS.iadd X0.here hx rfl (hb hby d2_52) rfl ?_
    refine st22 _ ?_
    show Steps p.tables e below (s₁.setTop (mkF m 54 #[.val (.ref u0), .val (.int (4 : Int32)), .val (.double fv17), .second, .val (.int (2 : Int32)), .val (.int (3 : Int32))] [(.double d5), (.double d6), (.double fv20), (.double fv17)])) _
    refine XS.dmulS X0.here hx rfl (hb hby d2_54) rfl (v := fv23) (by rw [← fe23]; exact di23.nn) fe23.symm ?_
    refine XS.dsubS X0.here hx rfl (hb hby d2_55) rfl (v := fv24) (by rw [← fe24]; exact di24.nn) fe24.symm ?_
    refine XS.daddS X0.here hx rfl (hb hby d2_56) rfl (v := fv25) (by rw [← fe25]; exact di25.nn) fe25.symm ?_
    refine XS.dstoreN X0.here hx rfl (hb hby d2_57) rfl (l' := #[.val (.ref u0), .val (.int (4 : Int32)), .val (.double fv25), .second, .val (.int (2 : Int32)), .val (.int (3 : Int32))]) rfl ?_
    show Steps p.tables e below (s₁.setTop (mkF m 58 #[.val (.ref u0), .val (.int (4 : Int32)), .val (.double fv25), .second, .val (.int (2 : Int32)), .val (.int (3 : Int32))] [])) _
    refine XS.iinc X0.here hx rfl (hb hby d2_58) rfl (l' := #[.val (.ref u0), .val (.int (4 : Int32)), .val (.double fv25), .second, .val (.int (3 : Int32)), .val (.int (3 : Int32))]) rfl ?_
    show Steps p.tables e below (s₁.setTop (mkF m 61 #[.val (.ref u0), .val (.int (4 : Int32)), .val (.double fv25), .second, .val (.int (3 : Int32)), .val (.int (3 : Int32))] [])) _
    refine XS.goto X0.here hx rfl (pc0 := 61) (pc' := 10) rfl (hb hby d2_61) (by decide) (by decide) ?_
    refine XS.iload X0.here hx rfl (hb hby d2_10) rfl ?_
    refine XS.iloadN X0.here hx rfl (hb hby d2_12) rfl ?_
    refine XS.icmpNo X0.here hx rfl (hb hby d2_13) rfl (tlt (by decide)).2.1 ?_
    refine XS.iload X0.here hx rfl (hb hby d2_16) rfl ?_
    refine XS.iconst X0.here hx rfl (hb hby d2_18) ?_
    show Steps p.tables e below (s₁.setTop (mkF m 19 #[.val (.ref u0), .val (.int (4 : Int32)), .val (.double fv25), .second, .val (.int (3 : Int32)), .val (.int (3 : Int32))] [(.int (1 : Int32)), (.int (3 : Int32))])) _
    refine XS.iadd X0.here hx rfl (hb hby d2_19) rfl ?_
    show Steps p.tables e below (s₁.setTop (mkF m 20 #[.val (.ref u0), .val (.int (4 : Int32)), .val (.double fv25), .second, .val (.int (3 : Int32)), .val (.int (3 : Int32))] [(.int (4 : Int32))])) _
    refine XS.iloadN X0.here hx rfl (hb hby d2_20) rfl ?_
    show Steps p.tables e below (s₁.setTop (mkF m 21 #[.val (.ref u0), .val (.int (4 : Int32)), .val (.double fv25), .second, .val (.int (3 : Int32)), .val (.int (3 : Int32))] [(.int (4 : Int32)), (.int (4 : Int32))])) _
    refine iremM X0 hx rfl (hb hby d2_21) rfl (by decide) ?_
    show Steps p.tables e below (s₁.setTop (mkF m 22 #[.val (.ref u0), .val (.int (4 : Int32)), .val (.double fv25), .second, .val (.int (3 : Int32)), .val (.int (3 : Int32))] [(.int (0 : Int32))])) _
    refine XS.istore X0.here hx rfl (hb hby d2_22) rfl (l' := #[.val (.ref u0), .val (.int (4 : Int32)), .val (.double fv25), .second, .val (.int (3 : Int32)), .val (.int (0 : Int32))]) rfl ?_
    refine XS.dloadN X0.here hx rfl (hb hby d2_24) rfl ?_
    refine XS.aloadN X0.here hx rfl (hb hby d2_25) rfl rfl ?_
    refine XS.iconst X0.here hx rfl (hb hby d2_26) ?_
    refine XS.iload X0.here hx rfl (hb hby d2_27) rfl ?_
    show Steps p.tables e below (s₁.setTop (mkF m 29 #[.val (.ref u0), .val (.int (4 : Int32)), .val (.double fv25), .second, .val (.int (3 : Int32)), .val (.int (0 : Int32))] [(.int (3 : Int32)), (.int (2 : Int32)), (.ref u0), (.double fv25)])) _
    refine XS.imul X0.here hx rfl (hb hby d2_29) rfl ?_
    refine st26 _ ?_
    show Steps p.tables e below (s₁.setTop (mkF m 31 #[.val (.ref u0), .val (.int (4 : Int32)), .val (.double fv25), .second, .val (.int (3 : Int32)), .val (.int (0 : Int32))] [(.double d6), (.double fv25)])) _
    refine XS.aloadN X0.here hx rfl (hb hby d2_31) rfl rfl ?_
    refine XS.iconst X0.here hx rfl (hb hby d2_32) ?_
    refine XS.iload X0.here hx rfl (hb hby d2_33) rfl ?_
    show Steps p.tables e below (s₁.setTop (mkF m 35 #[.val (.ref u0), .val (.int (4 : Int32)), .val (.double fv25), .second, .val (.int (3 : Int32)), .val (.int (0 : Int32))] [(.int (0 : Int32)), (.int (2 : Int32)), (.ref u0), (.double d6), (.double fv25)])) _
    refine XS.imul X0.here hx rfl (hb hby d2_35) rfl ?_
    show Steps p.tables e below (s₁.setTop (mkF m 36 #[.val (.ref u0), .val (.int (4 : Int32)), .val (.double fv25), .second, .val (.int (3 : Int32)), .val (.int (0 : Int32))] [(.int (0 : Int32)), (.ref u0), (.double d6), (.double fv25)])) _
    refine XS.iconst X0.here hx rfl (hb hby d2_36) ?_
    show Steps p.tables e below (s₁.setTop (mkF m 37 #[.val (.ref u0), .val (.int (4 : Int32)), .val (.double fv25), .second, .val (.int (3 : Int32)), .val (.int (0 : Int32))] [(.int (1 : Int32)), (.int (0 : Int32)), (.ref u0), (.double d6), (.double fv25)])) _
    refine XS.iadd X0.here hx rfl (hb hby d2_37) rfl ?_
    refine st27 _ ?_
    show Steps p.tables e below (s₁.setTop (mkF m 39 #[.val (.ref u0), .val (.int (4 : Int32)), .val (.double fv25), .second, .val (.int (3 : Int32)), .val (.int (0 : Int32))] [(.double d1), (.double d6), (.double fv25)])) _
    refine XS.dmulS X0.here hx rfl (hb hby d2_39) rfl (v := fv28) (by rw [← fe28]; exact di28.nn) fe28.symm ?_
    refine XS.aloadN X0.here hx rfl (hb hby d2_40) rfl rfl ?_
    refine XS.iconst X0.here hx rfl (hb hby d2_41) ?_
    refine XS.iload X0.here hx rfl (hb hby d2_42) rfl ?_
    show Steps p.tables e below (s₁.setTop (mkF m 44 #[.val (.ref u0), .val (.int (4 : Int32)), .val (.double fv25), .second, .val (.int (3 : Int32)), .val (.int (0 : Int32))] [(.int (0 : Int32)), (.int (2 : Int32)), (.ref u0), (.double fv28), (.double fv25)])) _
    refine XS.imul X0.here hx rfl (hb hby d2_44) rfl ?_
    refine st29 _ ?_
    show Steps p.tables e below (s₁.setTop (mkF m 46 #[.val (.ref u0), .val (.int (4 : Int32)), .val (.double fv25), .second, .val (.int (3 : Int32)), .val (.int (0 : Int32))] [(.double d0), (.double fv28), (.double fv25)])) _
    refine XS.aloadN X0.here hx rfl (hb hby d2_46) rfl rfl ?_
    refine XS.iconst X0.here hx rfl (hb hby d2_47) ?_
    refine XS.iload X0.here hx rfl (hb hby d2_48) rfl ?_
    show Steps p.tables e below (s₁.setTop (mkF m 50 #[.val (.ref u0), .val (.int (4 : Int32)), .val (.double fv25), .second, .val (.int (3 : Int32)), .val (.int (0 : Int32))] [(.int (3 : Int32)), (.int (2 : Int32)), (.ref u0), (.double d0), (.double fv28), (.double fv25)])) _
    refine XS.imul X0.here hx rfl (hb hby d2_50) rfl ?_
    show Steps p.tables e below (s₁.setTop (mkF m 51 #[.val (.ref u0), .val (.int (4 : Int32)), .val (.double fv25), .second, .val (.int (3 : Int32)), .val (.int (0 : Int32))] [(.int (6 : Int32)), (.ref u0), (.double d0), (.double fv28), (.double fv25)])) _
    refine XS.iconst X0.here hx rfl (hb hby d2_51) ?_
    show Steps p.tables e below (s₁.setTop (mkF m 52 #[.val (.ref u0), .val (.int (4 : Int32)), .val (.double fv25), .second, .val (.int (3 : Int32)), .val (.int (0 : Int32))] [(.int (1 : Int32)), (.int (6 : Int32)), (.ref u0), (.double d0), (.double fv28), (.double fv25)])) _
    refine XS.iadd X0.here hx rfl (hb hby d2_52) rfl ?_
    refine st30 _ ?_
    show Steps p.tables e below (s₁.setTop (mkF m 54 #[.val (.ref u0), .val (.int (4 : Int32)), .val (.double fv25), .second, .val (.int (3 : Int32)), .val (.int (0 : Int32))] [(.double d7), (.double d0), (.double fv28), (.double fv25)])) _
    refine XS.dmulS X0.here hx rfl (hb hby d2_54) rfl (v := fv31) (by rw [← fe31]; exact di31.nn) fe31.symm ?_
    refine XS.dsubS X0.here hx rfl (hb hby d2_55) rfl (v := fv32) (by rw [← fe32]; exact di32.nn) fe32.symm ?_
    refine XS.daddS X0.here hx rfl (hb hby d2_56) rfl (v := fv33) (by rw [← fe33]; exact di33.nn) fe33.symm ?_
    refine XS.dstoreN X0.here hx rfl (hb hby d2_57) rfl (l' := #[.val (.ref u0), .val (.int (4 : Int32)), .val (.double fv33), .second, .val (.int (3 : Int32)), .val (.int (0 : Int32))]) rfl ?_
    show Steps p.tables e below (s₁.setTop (mkF m 58 #[.val (.ref u0), .val (.int (4 : Int32)), .val (.double fv33), .second, .val (.int (3 : Int32)), .val (.int (0 : Int32))] [])) _
    refine XS.iinc X0.here hx rfl (hb hby d2_58) rfl (l' := #[.val (.ref u0), .val (.int (4 : Int32)), .val (.double fv33), .second, .val (.int (4 : Int32)), .val (.int (0 : Int32))]) rfl ?_
    show Steps p.tables e below (s₁.setTop (mkF m 61 #[.val (.ref u0), .val (.int (4 : Int32)), .val (.double fv33), .second, .val (.int (4 : Int32)), .val (.int (0 : Int32))] [])) _
    refine XS.goto X0.here hx rfl (pc0 := 61) (pc' := 10) rfl (hb hby d2_61) (by decide) (by decide) ?_
    refine XS.iload X0.here hx rfl (hb hby d2_10) rfl ?_
    refine XS.iloadN X0.here hx rfl (hb hby d2_12) rfl ?_
    refine XS.icmpYes X0.here hx rfl (pc0 := 13) (pc' := 64) rfl (hb hby d2_13) rfl (flt (by decide)).2.1 (by decide) (by decide) ?_
    refine XS.dloadN X0.here hx rfl (hb hby d2_64) rfl ?_
    refine XS.dconst0 X0.here hx rfl (hb hby d2_65) (v := 0) (by decide +kernel) ?_
    refine XS.dcmpS X0.here hx rfl (hb hby d2_66) rfl (v := cv34) ce34.symm ?_
    refine XS.ifNo X0.here hx rfl (hb hby d2_67) rfl ((if0 _ _).trans (flt (by rw [ce34]; exact fun q => hA ((DI.cmp di33).mp q))).1) ?_
    refine XS.aloadN X0.here hx rfl (hb hby d2_70) rfl rfl ?_
    show Steps p.tables e below (s₁.setTop (mkF m 71 #[.val (.ref u0), .val (.int (4 : Int32)), .val (.double fv33), .second, .val (.int (4 : Int32)), .val (.int (0 : Int32))] [(.ref u0)])) _
    jvm_step X0.here [X0.here.top, hx, (hb hby d2_71), X0.method', Bd.returns, Value.isRef, FieldType.isReference]
    first | (intro acts; rw [hr _ acts rfl rfl rfl]) | rw [hr _ _ rfl rfl rfl]
    exact Steps.refl _
  · show QC4 Z u0 k_u0 d0 d1 d2 d3 d4 d5 d6 d7 x0 x1 x2 x3 x4 x5 x6 x7 h0 n0 _ s₁.heap _
    rw [e0]
    exact ⟨rfl, N0, rfl⟩
theorem ef_C4n (m : MethodId) (u0 : Addr) : entryFrame m #[(.ref u0)] 6 = mkF m 0 #[.val (.ref u0), .unset, .unset, .unset, .unset, .unset] [] := by first | (simp [entryFrame, mkF, argsToLocals, Value.category]; done) | rfl
def QC4n (Z : State) (u0 : Addr) (k_u0 : ClassId) (d0 : UInt64) (d1 : UInt64) (d2 : UInt64) (d3 : UInt64) (d4 : UInt64) (d5 : UInt64) (d6 : UInt64) (d7 : UInt64) (x0 : Int) (x1 : Int) (x2 : Int) (x3 : Int) (x4 : Int) (x5 : Int) (x6 : Int) (x7 : Int) (h0 : Heap) (n0 : Nat) (v : Option Value) (h : Heap) (L : List Loc) : Prop := v = some (.ref h0.size) ∧ Fr n0 L ∧ Keep h0 h [] ∧ ∃ kk : ClassId, Arv Z h h0.size kk .double (8 : Int32) [(.double d6), (.double d7), (.double d4), (.double d5), (.double d2), (.double d3), (.double d0), (.double d1)] (.double (0 : UInt64))
set_option maxRecDepth 65536 in
set_option maxHeartbeats 40000000 in
theorem rmC4n (l : Launch) (Z : State) (a0 : Array Value) (hw : ∀ d ∈ tables_1, d.before a0 Z = true) (ws : List Jvm.Cond) (u0 : Addr) (k_u0 : ClassId) (d0 : UInt64) (d1 : UInt64) (d2 : UInt64) (d3 : UInt64) (d4 : UInt64) (d5 : UInt64) (d6 : UInt64) (d7 : UInt64) (x0 : Int) (x1 : Int) (x2 : Int) (x3 : Int) (x4 : Int) (x5 : Int) (x6 : Int) (x7 : Int) (h0 : Heap) (n0 : Nat) (Z0 : n0 ≤ h0.size) (V_u0 : Arv Z h0 u0 k_u0 .double (8 : Int32) [(.double d0), (.double d1), (.double d2), (.double d3), (.double d4), (.double d5), (.double d6), (.double d7)] (.double (0 : UInt64))) (D0 : DI x0 32768 d0) (D1 : DI x1 32768 d1) (D2 : DI x2 32768 d2) (D3 : DI x3 32768 d3) (D4 : DI x4 32768 d4) (D5 : DI x5 32768 d5) (D6 : DI x6 32768 d6) (D7 : DI x7 32768 d7) (hA : (((((0 : Int) + ((x0 * x3) - (x2 * x1))) + ((x2 * x5) - (x4 * x3))) + ((x4 * x7) - (x6 * x5))) + ((x6 * x1) - (x0 * x7))) < 0) :
    MetFree l (⟨"com/example/decorum/decorum/graphics/Rasterizer", "clockwise", "([D)[D"⟩ : MethodName) (head1 (Jvm.Cond.code (⟨"com/example/decorum/decorum/graphics/Rasterizer", "clockwise", "([D)[D"⟩ : MethodName) prog_81_method_4_code 6 (some (.array .double)) :: ws) ({ frames := 0, cells := 1, slots := 8, locals := 0 } : Room)) (fun a U => a = #[(.ref u0)] ∧ Z.Warmed39 U.vm ∧ U.heap = h0) (fun _ _ _ _ _ => True) (fun _ U o U' => ∃ v L, o = .returned v ∧ QC4n Z u0 k_u0 d0 d1 d2 d3 d4 d5 d6 d7 x0 x1 x2 x3 x4 x5 x6 x7 h0 n0 v U'.heap L ∧ FrameEnd U o U' L ({ frames := 0, cells := 1, slots := 8, locals := 0 } : Room).cells ({ frames := 0, cells := 1, slots := 8, locals := 0 } : Room).slots) := by
  refine MetFree.of_bodySF (plainFor_of_name pn_com_example_decorum_decorum_graphics_Rasterizer) hisR ?_
  intro p e s m args below meth c s₁ Bd hml0 hP hK
  obtain ⟨rfl, hZ, hh⟩ := hP
  have hx := Bd.exec
  have hby := Bd.bytes
  have hml : c.maxLocals = 6 := hml0
  have hown : s.vm.findClass "com/example/decorum/decorum/graphics/Rasterizer" = some m.cls := findClass_of_methodNamed Bd.named
  have hnm := (name_of_methodNamed Bd.named Bd.method).1
  have X0 : Stand p l e ({ frames := 0, cells := 1, slots := 8, locals := 0 } : Room) s m #[(.ref u0)] below meth c s₁ [] 0 0 := Stand.of_body Bd
  have e0 : s₁.heap = h0 := by rw [← hh, Bd.state]; rfl
  have N0 := Fr.nil n0
  have pre0 : ∀ t, Steps p.tables e below (s₁.setTop (mkF m 0 #[.val (.ref u0), .unset, .unset, .unset, .unset, .unset] [])) t → Steps p.tables e below (s₁.setTop (entryFrame m #[(.ref u0)] 6)) t := fun t k => castTop (ef_C4n m u0) k
  obtain ⟨cl1, Ar1, qa1, Sa1, Na1, Ha1, Ga1⟩ := id V_u0
  have st1 := X0.arraylength hx (by rw [e0]; exact Ar1.1) (State.isArrayOf_alike hZ.alike Ar1.2.1) (g := (mkF m 1 #[.val (.ref u0), .unset, .unset, .unset, .unset, .unset] [(.ref u0)])) rfl rfl (hb hby d2_1)
  rw [len_of Sa1 Na1] at st1
  have hi2 := inb_of (j := (0 : Int32)) Sa1 ⟨by decide, by decide⟩
  have st2 := X0.daload hx (j := (0 : Int32)) (v := (.double d0)) (by rw [e0]; exact Ar1.1) (State.isArrayOf_alike hZ.alike Ar1.2.1) Ar1.2.2 hi2 (Has.at Ha1 hi2 rfl) (g := (mkF m 30 #[.val (.ref u0), .val (.int (4 : Int32)), .val (.double (0 : UInt64)), .second, .val (.int (0 : Int32)), .val (.int (1 : Int32))] [(.int (0 : Int32)), (.ref u0), (.double (0 : UInt64))])) rfl rfl (hb hby d2_30)
  have hi3 := inb_of (j := (3 : Int32)) Sa1 ⟨by decide, by decide⟩
  have st3 := X0.daload hx (j := (3 : Int32)) (v := (.double d3)) (by rw [e0]; exact Ar1.1) (State.isArrayOf_alike hZ.alike Ar1.2.1) Ar1.2.2 hi3 (Has.at Ha1 hi3 rfl) (g := (mkF m 38 #[.val (.ref u0), .val (.int (4 : Int32)), .val (.double (0 : UInt64)), .second, .val (.int (0 : Int32)), .val (.int (1 : Int32))] [(.int (3 : Int32)), (.ref u0), (.double d0), (.double (0 : UInt64))])) rfl rfl (hb hby d2_38)
  obtain ⟨fv4, fe4⟩ : ∃ z, z = FP.dmul d0 d3 := ⟨_, rfl⟩
  have di4 : DI (x0 * x3) 1073741824 fv4 := DI.mul D0 D3 fe4 (by decide)
  have hi5 := inb_of (j := (2 : Int32)) Sa1 ⟨by decide, by decide⟩
  have st5 := X0.daload hx (j := (2 : Int32)) (v := (.double d2)) (by rw [e0]; exact Ar1.1) (State.isArrayOf_alike hZ.alike Ar1.2.1) Ar1.2.2 hi5 (Has.at Ha1 hi5 rfl) (g := (mkF m 45 #[.val (.ref u0), .val (.int (4 : Int32)), .val (.double (0 : UInt64)), .second, .val (.int (0 : Int32)), .val (.int (1 : Int32))] [(.int (2 : Int32)), (.ref u0), (.double fv4), (.double (0 : UInt64))])) rfl rfl (hb hby d2_45)
  have hi6 := inb_of (j := (1 : Int32)) Sa1 ⟨by decide, by decide⟩
  have st6 := X0.daload hx (j := (1 : Int32)) (v := (.double d1)) (by rw [e0]; exact Ar1.1) (State.isArrayOf_alike hZ.alike Ar1.2.1) Ar1.2.2 hi6 (Has.at Ha1 hi6 rfl) (g := (mkF m 53 #[.val (.ref u0), .val (.int (4 : Int32)), .val (.double (0 : UInt64)), .second, .val (.int (0 : Int32)), .val (.int (1 : Int32))] [(.int (1 : Int32)), (.ref u0), (.double d2), (.double fv4), (.double (0 : UInt64))])) rfl rfl (hb hby d2_53)
  obtain ⟨fv7, fe7⟩ : ∃ z, z = FP.dmul d2 d1 := ⟨_, rfl⟩
  have di7 : DI (x2 * x1) 1073741824 fv7 := DI.mul D2 D1 fe7 (by decide)
  obtain ⟨fv8, fe8⟩ : ∃ z, z = FP.dsub fv4 fv7 := ⟨_, rfl⟩
  have di8 : DI ((x0 * x3) - (x2 * x1)) 2147483648 fv8 := DI.sub di4 di7 fe8 (by decide)
  obtain ⟨fv9, fe9⟩ : ∃ z, z = FP.dadd (0 : UInt64) fv8 := ⟨_, rfl⟩
  have di9 : DI ((0 : Int) + ((x0 * x3) - (x2 * x1))) 2147483648 fv9 := DI.add DI.zero di8 fe9 (by decide)
  have hi10 := inb_of (j := (2 : Int32)) Sa1 ⟨by decide, by decide⟩
  have st10 := X0.daload hx (j := (2 : Int32)) (v := (.double d2)) (by rw [e0]; exact Ar1.1) (State.isArrayOf_alike hZ.alike Ar1.2.1) Ar1.2.2 hi10 (Has.at Ha1 hi10 rfl) (g := (mkF m 30 #[.val (.ref u0), .val (.int (4 : Int32)), .val (.double fv9), .second, .val (.int (1 : Int32)), .val (.int (2 : Int32))] [(.int (2 : Int32)), (.ref u0), (.double fv9)])) rfl rfl (hb hby d2_30)
  have hi11 := inb_of (j := (5 : Int32)) Sa1 ⟨by decide, by decide⟩
  have st11 := X0.daload hx (j := (5 : Int32)) (v := (.double d5)) (by rw [e0]; exact Ar1.1) (State.isArrayOf_alike hZ.alike Ar1.2.1) Ar1.2.2 hi11 (Has.at Ha1 hi11 rfl) (g := (mkF m 38 #[.val (.ref u0), .val (.int (4 : Int32)), .val (.double fv9), .second, .val (.int (1 : Int32)), .val (.int (2 : Int32))] [(.int (5 : Int32)), (.ref u0), (.double d2), (.double fv9)])) rfl rfl (hb hby d2_38)
  obtain ⟨fv12, fe12⟩ : ∃ z, z = FP.dmul d2 d5 := ⟨_, rfl⟩
  have di12 : DI (x2 * x5) 1073741824 fv12 := DI.mul D2 D5 fe12 (by decide)
  have hi13 := inb_of (j := (4 : Int32)) Sa1 ⟨by decide, by decide⟩
  have st13 := X0.daload hx (j := (4 : Int32)) (v := (.double d4)) (by rw [e0]; exact Ar1.1) (State.isArrayOf_alike hZ.alike Ar1.2.1) Ar1.2.2 hi13 (Has.at Ha1 hi13 rfl) (g := (mkF m 45 #[.val (.ref u0), .val (.int (4 : Int32)), .val (.double fv9), .second, .val (.int (1 : Int32)), .val (.int (2 : Int32))] [(.int (4 : Int32)), (.ref u0), (.double fv12), (.double fv9)])) rfl rfl (hb hby d2_45)
  have hi14 := inb_of (j := (3 : Int32)) Sa1 ⟨by decide, by decide⟩
  have st14 := X0.daload hx (j := (3 : Int32)) (v := (.double d3)) (by rw [e0]; exact Ar1.1) (State.isArrayOf_alike hZ.alike Ar1.2.1) Ar1.2.2 hi14 (Has.at Ha1 hi14 rfl) (g := (mkF m 53 #[.val (.ref u0), .val (.int (4 : Int32)), .val (.double fv9), .second, .val (.int (1 : Int32)), .val (.int (2 : Int32))] [(.int (3 : Int32)), (.ref u0), (.double d4), (.double fv12), (.double fv9)])) rfl rfl (hb hby d2_53)
  obtain ⟨fv15, fe15⟩ : ∃ z, z = FP.dmul d4 d3 := ⟨_, rfl⟩
  have di15 : DI (x4 * x3) 1073741824 fv15 := DI.mul D4 D3 fe15 (by decide)
  obtain ⟨fv16, fe16⟩ : ∃ z, z = FP.dsub fv12 fv15 := ⟨_, rfl⟩
  have di16 : DI ((x2 * x5) - (x4 * x3)) 2147483648 fv16 := DI.sub di12 di15 fe16 (by decide)
  obtain ⟨fv17, fe17⟩ : ∃ z, z = FP.dadd fv9 fv16 := ⟨_, rfl⟩
  have di17 : DI (((0 : Int) + ((x0 * x3) - (x2 * x1))) + ((x2 * x5) - (x4 * x3))) 4294967296 fv17 := DI.add di9 di16 fe17 (by decide)
  have hi18 := inb_of (j := (4 : Int32)) Sa1 ⟨by decide, by decide⟩
  have st18 := X0.daload hx (j := (4 : Int32)) (v := (.double d4)) (by rw [e0]; exact Ar1.1) (State.isArrayOf_alike hZ.alike Ar1.2.1) Ar1.2.2 hi18 (Has.at Ha1 hi18 rfl) (g := (mkF m 30 #[.val (.ref u0), .val (.int (4 : Int32)), .val (.double fv17), .second, .val (.int (2 : Int32)), .val (.int (3 : Int32))] [(.int (4 : Int32)), (.ref u0), (.double fv17)])) rfl rfl (hb hby d2_30)
  have hi19 := inb_of (j := (7 : Int32)) Sa1 ⟨by decide, by decide⟩
  have st19 := X0.daload hx (j := (7 : Int32)) (v := (.double d7)) (by rw [e0]; exact Ar1.1) (State.isArrayOf_alike hZ.alike Ar1.2.1) Ar1.2.2 hi19 (Has.at Ha1 hi19 rfl) (g := (mkF m 38 #[.val (.ref u0), .val (.int (4 : Int32)), .val (.double fv17), .second, .val (.int (2 : Int32)), .val (.int (3 : Int32))] [(.int (7 : Int32)), (.ref u0), (.double d4), (.double fv17)])) rfl rfl (hb hby d2_38)
  obtain ⟨fv20, fe20⟩ : ∃ z, z = FP.dmul d4 d7 := ⟨_, rfl⟩
  have di20 : DI (x4 * x7) 1073741824 fv20 := DI.mul D4 D7 fe20 (by decide)
  have hi21 := inb_of (j := (6 : Int32)) Sa1 ⟨by decide, by decide⟩
  have st21 := X0.daload hx (j := (6 : Int32)) (v := (.double d6)) (by rw [e0]; exact Ar1.1) (State.isArrayOf_alike hZ.alike Ar1.2.1) Ar1.2.2 hi21 (Has.at Ha1 hi21 rfl) (g := (mkF m 45 #[.val (.ref u0), .val (.int (4 : Int32)), .val (.double fv17), .second, .val (.int (2 : Int32)), .val (.int (3 : Int32))] [(.int (6 : Int32)), (.ref u0), (.double fv20), (.double fv17)])) rfl rfl (hb hby d2_45)
  have hi22 := inb_of (j := (5 : Int32)) Sa1 ⟨by decide, by decide⟩
  have st22 := X0.daload hx (j := (5 : Int32)) (v := (.double d5)) (by rw [e0]; exact Ar1.1) (State.isArrayOf_alike hZ.alike Ar1.2.1) Ar1.2.2 hi22 (Has.at Ha1 hi22 rfl) (g := (mkF m 53 #[.val (.ref u0), .val (.int (4 : Int32)), .val (.double fv17), .second, .val (.int (2 : Int32)), .val (.int (3 : Int32))] [(.int (5 : Int32)), (.ref u0), (.double d6), (.double fv20), (.double fv17)])) rfl rfl (hb hby d2_53)
  obtain ⟨fv23, fe23⟩ : ∃ z, z = FP.dmul d6 d5 := ⟨_, rfl⟩
  have di23 : DI (x6 * x5) 1073741824 fv23 := DI.mul D6 D5 fe23 (by decide)
  obtain ⟨fv24, fe24⟩ : ∃ z, z = FP.dsub fv20 fv23 := ⟨_, rfl⟩
  have di24 : DI ((x4 * x7) - (x6 * x5)) 2147483648 fv24 := DI.sub di20 di23 fe24 (by decide)
  obtain ⟨fv25, fe25⟩ : ∃ z, z = FP.dadd fv17 fv24 := ⟨_, rfl⟩
  have di25 : DI ((((0 : Int) + ((x0 * x3) - (x2 * x1))) + ((x2 * x5) - (x4 * x3))) + ((x4 * x7) - (x6 * x5))) 6442450944 fv25 := DI.add di17 di24 fe25 (by decide)
  have hi26 := inb_of (j := (6 : Int32)) Sa1 ⟨by decide, by decide⟩
  have st26 := X0.daload hx (j := (6 : Int32)) (v := (.double d6)) (by rw [e0]; exact Ar1.1) (State.isArrayOf_alike hZ.alike Ar1.2.1) Ar1.2.2 hi26 (Has.at Ha1 hi26 rfl) (g := (mkF m 30 #[.val (.ref u0), .val (.int (4 : Int32)), .val (.double fv25), .second, .val (.int (3 : Int32)), .val (.int (0 : Int32))] [(.int (6 : Int32)), (.ref u0), (.double fv25)])) rfl rfl (hb hby d2_30)
  have hi27 := inb_of (j := (1 : Int32)) Sa1 ⟨by decide, by decide⟩
  have st27 := X0.daload hx (j := (1 : Int32)) (v := (.double d1)) (by rw [e0]; exact Ar1.1) (State.isArrayOf_alike hZ.alike Ar1.2.1) Ar1.2.2 hi27 (Has.at Ha1 hi27 rfl) (g := (mkF m 38 #[.val (.ref u0), .val (.int (4 : Int32)), .val (.double fv25), .second, .val (.int (3 : Int32)), .val (.int (0 : Int32))] [(.int (1 : Int32)), (.ref u0), (.double d6), (.double fv25)])) rfl rfl (hb hby d2_38)
  obtain ⟨fv28, fe28⟩ : ∃ z, z = FP.dmul d6 d1 := ⟨_, rfl⟩
  have di28 : DI (x6 * x1) 1073741824 fv28 := DI.mul D6 D1 fe28 (by decide)
  have hi29 := inb_of (j := (0 : Int32)) Sa1 ⟨by decide, by decide⟩
  have st29 := X0.daload hx (j := (0 : Int32)) (v := (.double d0)) (by rw [e0]; exact Ar1.1) (State.isArrayOf_alike hZ.alike Ar1.2.1) Ar1.2.2 hi29 (Has.at Ha1 hi29 rfl) (g := (mkF m 45 #[.val (.ref u0), .val (.int (4 : Int32)), .val (.double fv25), .second, .val (.int (3 : Int32)), .val (.int (0 : Int32))] [(.int (0 : Int32)), (.ref u0), (.double fv28), (.double fv25)])) rfl rfl (hb hby d2_45)
  have hi30 := inb_of (j := (7 : Int32)) Sa1 ⟨by decide, by decide⟩
  have st30 := X0.daload hx (j := (7 : Int32)) (v := (.double d7)) (by rw [e0]; exact Ar1.1) (State.isArrayOf_alike hZ.alike Ar1.2.1) Ar1.2.2 hi30 (Has.at Ha1 hi30 rfl) (g := (mkF m 53 #[.val (.ref u0), .val (.int (4 : Int32)), .val (.double fv25), .second, .val (.int (3 : Int32)), .val (.int (0 : Int32))] [(.int (7 : Int32)), (.ref u0), (.double d0), (.double fv28), (.double fv25)])) rfl rfl (hb hby d2_53)
  obtain ⟨fv31, fe31⟩ : ∃ z, z = FP.dmul d0 d7 := ⟨_, rfl⟩
  have di31 : DI (x0 * x7) 1073741824 fv31 := DI.mul D0 D7 fe31 (by decide)
  obtain ⟨fv32, fe32⟩ : ∃ z, z = FP.dsub fv28 fv31 := ⟨_, rfl⟩
  have di32 : DI ((x6 * x1) - (x0 * x7)) 2147483648 fv32 := DI.sub di28 di31 fe32 (by decide)
  obtain ⟨fv33, fe33⟩ : ∃ z, z = FP.dadd fv25 fv32 := ⟨_, rfl⟩
  have di33 : DI (((((0 : Int) + ((x0 * x3) - (x2 * x1))) + ((x2 * x5) - (x4 * x3))) + ((x4 * x7) - (x6 * x5))) + ((x6 * x1) - (x0 * x7))) 8589934592 fv33 := DI.add di25 di32 fe33 (by decide)
  obtain ⟨cv34, ce34⟩ : ∃ z, z = cmpValue (FP.dcmp fv33 (0 : UInt64)) .l := ⟨_, rfl⟩
  have st35 := X0.arraylength hx (by rw [e0]; exact Ar1.1) (State.isArrayOf_alike hZ.alike Ar1.2.1) (g := (mkF m 73 #[.val (.ref u0), .val (.int (4 : Int32)), .val (.double fv33), .second, .val (.int (4 : Int32)), .val (.int (0 : Int32))] [(.ref u0)])) rfl rfl (hb hby d2_73)
  rw [len_of Sa1 Na1] at st35
  obtain ⟨T36, h36, k36, X36, e36, E36, A36, st36⟩ := newP X0 hx hZ (hw _ (List.mem_of_getElem? (i := 4) rfl)) e0 (g := (mkF m 74 #[.val (.ref u0), .val (.int (4 : Int32)), .val (.double fv33), .second, .val (.int (4 : Int32)), .val (.int (0 : Int32))] [(.int (8 : Int32))])) rfl (hb hby d2_74) rfl (by decide) (cap := 8) (by decide) (by decide) (by decide) (by decide)
  obtain ⟨b36, g36⟩ : ∃ z, z = h0.size := ⟨_, rfl⟩
  rw [← g36] at A36 st36
  have g_b36 : n0 ≤ b36 := Nat.le_trans Z0 (Nat.le_of_eq g36.symm)
  have sz_b36 : h0.size ≤ b36 := Nat.le_trans (Keep.refl h0 []).1 (Nat.le_of_eq g36.symm)
  have V36 : Arv Z h36 b36 k36 .double (8 : Int32) [(.double (0 : UInt64)), (.double (0 : UInt64)), (.double (0 : UInt64)), (.double (0 : UInt64)), (.double (0 : UInt64)), (.double (0 : UInt64)), (.double (0 : UInt64)), (.double (0 : UInt64))] (.double (0 : UInt64)) := (Arv.new A36 (by decide)).pad (pad_rep [] (.double (0 : UInt64)) 8)
  have Z36 : n0 ≤ h36.size := Nat.le_trans Z0 E36.1
  have KK36 := (Keep.refl h0 []).ext E36
  obtain ⟨cl37, Ar37, qa37, Sa37, Na37, Ha37, Ga37⟩ := id (V_u0.ext E36)
  have hi37 := inb_of (j := (6 : Int32)) Sa37 ⟨by decide, by decide⟩
  have st37 := X36.daload hx (j := (6 : Int32)) (v := (.double d6)) (by rw [e36]; exact Ar37.1) (State.isArrayOf_alike hZ.alike Ar37.2.1) Ar37.2.2 hi37 (Has.at Ha37 hi37 rfl) (g := (mkF m 102 #[.val (.ref u0), .val (.int (4 : Int32)), .val (.double fv33), .second, .val (.ref b36), .val (.int (0 : Int32))] [(.int (6 : Int32)), (.ref u0), (.int (0 : Int32)), (.ref b36)])) rfl rfl (hb hby d2_102)
  obtain ⟨cl38, Ar38, qa38, Sa38, Na38, Ha38, Ga38⟩ := id V36
  obtain ⟨T39, h39, X39, e39, W39, st39⟩ := stD X36 hx hZ e36 Ar38 (j := (0 : Int32)) (inb_of Sa38 ⟨by decide, by decide⟩) (g := (mkF m 103 #[.val (.ref u0), .val (.int (4 : Int32)), .val (.double fv33), .second, .val (.ref b36), .val (.int (0 : Int32))] [(.double d6), (.int (0 : Int32)), (.ref b36)])) rfl rfl (hb hby d2_103)
  have V39 : Arv Z h39 b36 k36 .double (8 : Int32) [(.double d6), (.double (0 : UInt64)), (.double (0 : UInt64)), (.double (0 : UInt64)), (.double (0 : UInt64)), (.double (0 : UInt64)), (.double (0 : UInt64)), (.double (0 : UInt64))] (.double (0 : UInt64)) := Arv.set Ar38 qa38 Sa38 Na38 Ha38 Ga38 rfl W39 0 rfl (Nat.le_of_ble_eq_true rfl)
  have N39 := Fr.snoc X39 N0 g_b36
  have Z39 : n0 ≤ h39.size := Nat.le_trans Z36 (Keep.of_wr W39).1
  have KK39 := KK36.wr W39 (Or.inr sz_b36)
  obtain ⟨cl40, Ar40, qa40, Sa40, Na40, Ha40, Ga40⟩ := id ((V_u0.ext E36).other W39 (Nat.ne_of_lt (Nat.lt_of_lt_of_le V_u0.lt (Nat.le_of_eq g36.symm))))
  have hi40 := inb_of (j := (7 : Int32)) Sa40 ⟨by decide, by decide⟩
  have st40 := X39.daload hx (j := (7 : Int32)) (v := (.double d7)) (by rw [e39]; exact Ar40.1) (State.isArrayOf_alike hZ.alike Ar40.2.1) Ar40.2.2 hi40 (Has.at Ha40 hi40 rfl) (g := (mkF m 123 #[.val (.ref u0), .val (.int (4 : Int32)), .val (.double fv33), .second, .val (.ref b36), .val (.int (0 : Int32))] [(.int (7 : Int32)), (.ref u0), (.int (1 : Int32)), (.ref b36)])) rfl rfl (hb hby d2_123)
  obtain ⟨cl41, Ar41, qa41, Sa41, Na41, Ha41, Ga41⟩ := id V39
  obtain ⟨T42, h42, X42, e42, W42, st42⟩ := stD X39 hx hZ e39 Ar41 (j := (1 : Int32)) (inb_of Sa41 ⟨by decide, by decide⟩) (g := (mkF m 124 #[.val (.ref u0), .val (.int (4 : Int32)), .val (.double fv33), .second, .val (.ref b36), .val (.int (0 : Int32))] [(.double d7), (.int (1 : Int32)), (.ref b36)])) rfl rfl (hb hby d2_124)
  have V42 : Arv Z h42 b36 k36 .double (8 : Int32) [(.double d6), (.double d7), (.double (0 : UInt64)), (.double (0 : UInt64)), (.double (0 : UInt64)), (.double (0 : UInt64)), (.double (0 : UInt64)), (.double (0 : UInt64))] (.double (0 : UInt64)) := Arv.set Ar41 qa41 Sa41 Na41 Ha41 Ga41 rfl W42 1 rfl (Nat.le_of_ble_eq_true rfl)
  have N42 := Fr.snoc X42 N39 g_b36
  have Z42 : n0 ≤ h42.size := Nat.le_trans Z39 (Keep.of_wr W42).1
  have KK42 := KK39.wr W42 (Or.inr sz_b36)
  obtain ⟨cl43, Ar43, qa43, Sa43, Na43, Ha43, Ga43⟩ := id (((V_u0.ext E36).other W39 (Nat.ne_of_lt (Nat.lt_of_lt_of_le V_u0.lt (Nat.le_of_eq g36.symm)))).other W42 (Nat.ne_of_lt (Nat.lt_of_lt_of_le V_u0.lt (Nat.le_of_eq g36.symm))))
  have hi43 := inb_of (j := (4 : Int32)) Sa43 ⟨by decide, by decide⟩
  have st43 := X42.daload hx (j := (4 : Int32)) (v := (.double d4)) (by rw [e42]; exact Ar43.1) (State.isArrayOf_alike hZ.alike Ar43.2.1) Ar43.2.2 hi43 (Has.at Ha43 hi43 rfl) (g := (mkF m 102 #[.val (.ref u0), .val (.int (4 : Int32)), .val (.double fv33), .second, .val (.ref b36), .val (.int (1 : Int32))] [(.int (4 : Int32)), (.ref u0), (.int (2 : Int32)), (.ref b36)])) rfl rfl (hb hby d2_102)
  obtain ⟨cl44, Ar44, qa44, Sa44, Na44, Ha44, Ga44⟩ := id V42
  obtain ⟨T45, h45, X45, e45, W45, st45⟩ := stD X42 hx hZ e42 Ar44 (j := (2 : Int32)) (inb_of Sa44 ⟨by decide, by decide⟩) (g := (mkF m 103 #[.val (.ref u0), .val (.int (4 : Int32)), .val (.double fv33), .second, .val (.ref b36), .val (.int (1 : Int32))] [(.double d4), (.int (2 : Int32)), (.ref b36)])) rfl rfl (hb hby d2_103)
  have V45 : Arv Z h45 b36 k36 .double (8 : Int32) [(.double d6), (.double d7), (.double d4), (.double (0 : UInt64)), (.double (0 : UInt64)), (.double (0 : UInt64)), (.double (0 : UInt64)), (.double (0 : UInt64))] (.double (0 : UInt64)) := Arv.set Ar44 qa44 Sa44 Na44 Ha44 Ga44 rfl W45 2 rfl (Nat.le_of_ble_eq_true rfl)
  have N45 := Fr.snoc X45 N42 g_b36
  have Z45 : n0 ≤ h45.size := Nat.le_trans Z42 (Keep.of_wr W45).1
  have KK45 := KK42.wr W45 (Or.inr sz_b36)
  obtain ⟨cl46, Ar46, qa46, Sa46, Na46, Ha46, Ga46⟩ := id ((((V_u0.ext E36).other W39 (Nat.ne_of_lt (Nat.lt_of_lt_of_le V_u0.lt (Nat.le_of_eq g36.symm)))).other W42 (Nat.ne_of_lt (Nat.lt_of_lt_of_le V_u0.lt (Nat.le_of_eq g36.symm)))).other W45 (Nat.ne_of_lt (Nat.lt_of_lt_of_le V_u0.lt (Nat.le_of_eq g36.symm))))
  have hi46 := inb_of (j := (5 : Int32)) Sa46 ⟨by decide, by decide⟩
  have st46 := X45.daload hx (j := (5 : Int32)) (v := (.double d5)) (by rw [e45]; exact Ar46.1) (State.isArrayOf_alike hZ.alike Ar46.2.1) Ar46.2.2 hi46 (Has.at Ha46 hi46 rfl) (g := (mkF m 123 #[.val (.ref u0), .val (.int (4 : Int32)), .val (.double fv33), .second, .val (.ref b36), .val (.int (1 : Int32))] [(.int (5 : Int32)), (.ref u0), (.int (3 : Int32)), (.ref b36)])) rfl rfl (hb hby d2_123)
  obtain ⟨cl47, Ar47, qa47, Sa47, Na47, Ha47, Ga47⟩ := id V45
  obtain ⟨T48, h48, X48, e48, W48, st48⟩ := stD X45 hx hZ e45 Ar47 (j := (3 : Int32)) (inb_of Sa47 ⟨by decide, by decide⟩) (g := (mkF m 124 #[.val (.ref u0), .val (.int (4 : Int32)), .val (.double fv33), .second, .val (.ref b36), .val (.int (1 : Int32))] [(.double d5), (.int (3 : Int32)), (.ref b36)])) rfl rfl (hb hby d2_124)
  have V48 : Arv Z h48 b36 k36 .double (8 : Int32) [(.double d6), (.double d7), (.double d4), (.double d5), (.double (0 : UInt64)), (.double (0 : UInt64)), (.double (0 : UInt64)), (.double (0 : UInt64))] (.double (0 : UInt64)) := Arv.set Ar47 qa47 Sa47 Na47 Ha47 Ga47 rfl W48 3 rfl (Nat.le_of_ble_eq_true rfl)
  have N48 := Fr.snoc X48 N45 g_b36
  have Z48 : n0 ≤ h48.size := Nat.le_trans Z45 (Keep.of_wr W48).1
  have KK48 := KK45.wr W48 (Or.inr sz_b36)
  obtain ⟨cl49, Ar49, qa49, Sa49, Na49, Ha49, Ga49⟩ := id (((((V_u0.ext E36).other W39 (Nat.ne_of_lt (Nat.lt_of_lt_of_le V_u0.lt (Nat.le_of_eq g36.symm)))).other W42 (Nat.ne_of_lt (Nat.lt_of_lt_of_le V_u0.lt (Nat.le_of_eq g36.symm)))).other W45 (Nat.ne_of_lt (Nat.lt_of_lt_of_le V_u0.lt (Nat.le_of_eq g36.symm)))).other W48 (Nat.ne_of_lt (Nat.lt_of_lt_of_le V_u0.lt (Nat.le_of_eq g36.symm))))
  have hi49 := inb_of (j := (2 : Int32)) Sa49 ⟨by decide, by decide⟩
  have st49 := X48.daload hx (j := (2 : Int32)) (v := (.double d2)) (by rw [e48]; exact Ar49.1) (State.isArrayOf_alike hZ.alike Ar49.2.1) Ar49.2.2 hi49 (Has.at Ha49 hi49 rfl) (g := (mkF m 102 #[.val (.ref u0), .val (.int (4 : Int32)), .val (.double fv33), .second, .val (.ref b36), .val (.int (2 : Int32))] [(.int (2 : Int32)), (.ref u0), (.int (4 : Int32)), (.ref b36)])) rfl rfl (hb hby d2_102)
  obtain ⟨cl50, Ar50, qa50, Sa50, Na50, Ha50, Ga50⟩ := id V48
  obtain ⟨T51, h51, X51, e51, W51, st51⟩ := stD X48 hx hZ e48 Ar50 (j := (4 : Int32)) (inb_of Sa50 ⟨by decide, by decide⟩) (g := (mkF m 103 #[.val (.ref u0), .val (.int (4 : Int32)), .val (.double fv33), .second, .val (.ref b36), .val (.int (2 : Int32))] [(.double d2), (.int (4 : Int32)), (.ref b36)])) rfl rfl (hb hby d2_103)
  have V51 : Arv Z h51 b36 k36 .double (8 : Int32) [(.double d6), (.double d7), (.double d4), (.double d5), (.double d2), (.double (0 : UInt64)), (.double (0 : UInt64)), (.double (0 : UInt64))] (.double (0 : UInt64)) := Arv.set Ar50 qa50 Sa50 Na50 Ha50 Ga50 rfl W51 4 rfl (Nat.le_of_ble_eq_true rfl)
  have N51 := Fr.snoc X51 N48 g_b36
  have Z51 : n0 ≤ h51.size := Nat.le_trans Z48 (Keep.of_wr W51).1
  have KK51 := KK48.wr W51 (Or.inr sz_b36)
  obtain ⟨cl52, Ar52, qa52, Sa52, Na52, Ha52, Ga52⟩ := id ((((((V_u0.ext E36).other W39 (Nat.ne_of_lt (Nat.lt_of_lt_of_le V_u0.lt (Nat.le_of_eq g36.symm)))).other W42 (Nat.ne_of_lt (Nat.lt_of_lt_of_le V_u0.lt (Nat.le_of_eq g36.symm)))).other W45 (Nat.ne_of_lt (Nat.lt_of_lt_of_le V_u0.lt (Nat.le_of_eq g36.symm)))).other W48 (Nat.ne_of_lt (Nat.lt_of_lt_of_le V_u0.lt (Nat.le_of_eq g36.symm)))).other W51 (Nat.ne_of_lt (Nat.lt_of_lt_of_le V_u0.lt (Nat.le_of_eq g36.symm))))
  have hi52 := inb_of (j := (3 : Int32)) Sa52 ⟨by decide, by decide⟩
  have st52 := X51.daload hx (j := (3 : Int32)) (v := (.double d3)) (by rw [e51]; exact Ar52.1) (State.isArrayOf_alike hZ.alike Ar52.2.1) Ar52.2.2 hi52 (Has.at Ha52 hi52 rfl) (g := (mkF m 123 #[.val (.ref u0), .val (.int (4 : Int32)), .val (.double fv33), .second, .val (.ref b36), .val (.int (2 : Int32))] [(.int (3 : Int32)), (.ref u0), (.int (5 : Int32)), (.ref b36)])) rfl rfl (hb hby d2_123)
  obtain ⟨cl53, Ar53, qa53, Sa53, Na53, Ha53, Ga53⟩ := id V51
  obtain ⟨T54, h54, X54, e54, W54, st54⟩ := stD X51 hx hZ e51 Ar53 (j := (5 : Int32)) (inb_of Sa53 ⟨by decide, by decide⟩) (g := (mkF m 124 #[.val (.ref u0), .val (.int (4 : Int32)), .val (.double fv33), .second, .val (.ref b36), .val (.int (2 : Int32))] [(.double d3), (.int (5 : Int32)), (.ref b36)])) rfl rfl (hb hby d2_124)
  have V54 : Arv Z h54 b36 k36 .double (8 : Int32) [(.double d6), (.double d7), (.double d4), (.double d5), (.double d2), (.double d3), (.double (0 : UInt64)), (.double (0 : UInt64))] (.double (0 : UInt64)) := Arv.set Ar53 qa53 Sa53 Na53 Ha53 Ga53 rfl W54 5 rfl (Nat.le_of_ble_eq_true rfl)
  have N54 := Fr.snoc X54 N51 g_b36
  have Z54 : n0 ≤ h54.size := Nat.le_trans Z51 (Keep.of_wr W54).1
  have KK54 := KK51.wr W54 (Or.inr sz_b36)
  obtain ⟨cl55, Ar55, qa55, Sa55, Na55, Ha55, Ga55⟩ := id (((((((V_u0.ext E36).other W39 (Nat.ne_of_lt (Nat.lt_of_lt_of_le V_u0.lt (Nat.le_of_eq g36.symm)))).other W42 (Nat.ne_of_lt (Nat.lt_of_lt_of_le V_u0.lt (Nat.le_of_eq g36.symm)))).other W45 (Nat.ne_of_lt (Nat.lt_of_lt_of_le V_u0.lt (Nat.le_of_eq g36.symm)))).other W48 (Nat.ne_of_lt (Nat.lt_of_lt_of_le V_u0.lt (Nat.le_of_eq g36.symm)))).other W51 (Nat.ne_of_lt (Nat.lt_of_lt_of_le V_u0.lt (Nat.le_of_eq g36.symm)))).other W54 (Nat.ne_of_lt (Nat.lt_of_lt_of_le V_u0.lt (Nat.le_of_eq g36.symm))))
  have hi55 := inb_of (j := (0 : Int32)) Sa55 ⟨by decide, by decide⟩
  have st55 := X54.daload hx (j := (0 : Int32)) (v := (.double d0)) (by rw [e54]; exact Ar55.1) (State.isArrayOf_alike hZ.alike Ar55.2.1) Ar55.2.2 hi55 (Has.at Ha55 hi55 rfl) (g := (mkF m 102 #[.val (.ref u0), .val (.int (4 : Int32)), .val (.double fv33), .second, .val (.ref b36), .val (.int (3 : Int32))] [(.int (0 : Int32)), (.ref u0), (.int (6 : Int32)), (.ref b36)])) rfl rfl (hb hby d2_102)
  obtain ⟨cl56, Ar56, qa56, Sa56, Na56, Ha56, Ga56⟩ := id V54
  obtain ⟨T57, h57, X57, e57, W57, st57⟩ := stD X54 hx hZ e54 Ar56 (j := (6 : Int32)) (inb_of Sa56 ⟨by decide, by decide⟩) (g := (mkF m 103 #[.val (.ref u0), .val (.int (4 : Int32)), .val (.double fv33), .second, .val (.ref b36), .val (.int (3 : Int32))] [(.double d0), (.int (6 : Int32)), (.ref b36)])) rfl rfl (hb hby d2_103)
  have V57 : Arv Z h57 b36 k36 .double (8 : Int32) [(.double d6), (.double d7), (.double d4), (.double d5), (.double d2), (.double d3), (.double d0), (.double (0 : UInt64))] (.double (0 : UInt64)) := Arv.set Ar56 qa56 Sa56 Na56 Ha56 Ga56 rfl W57 6 rfl (Nat.le_of_ble_eq_true rfl)
  have N57 := Fr.snoc X57 N54 g_b36
  have Z57 : n0 ≤ h57.size := Nat.le_trans Z54 (Keep.of_wr W57).1
  have KK57 := KK54.wr W57 (Or.inr sz_b36)
  obtain ⟨cl58, Ar58, qa58, Sa58, Na58, Ha58, Ga58⟩ := id ((((((((V_u0.ext E36).other W39 (Nat.ne_of_lt (Nat.lt_of_lt_of_le V_u0.lt (Nat.le_of_eq g36.symm)))).other W42 (Nat.ne_of_lt (Nat.lt_of_lt_of_le V_u0.lt (Nat.le_of_eq g36.symm)))).other W45 (Nat.ne_of_lt (Nat.lt_of_lt_of_le V_u0.lt (Nat.le_of_eq g36.symm)))).other W48 (Nat.ne_of_lt (Nat.lt_of_lt_of_le V_u0.lt (Nat.le_of_eq g36.symm)))).other W51 (Nat.ne_of_lt (Nat.lt_of_lt_of_le V_u0.lt (Nat.le_of_eq g36.symm)))).other W54 (Nat.ne_of_lt (Nat.lt_of_lt_of_le V_u0.lt (Nat.le_of_eq g36.symm)))).other W57 (Nat.ne_of_lt (Nat.lt_of_lt_of_le V_u0.lt (Nat.le_of_eq g36.symm))))
  have hi58 := inb_of (j := (1 : Int32)) Sa58 ⟨by decide, by decide⟩
  have st58 := X57.daload hx (j := (1 : Int32)) (v := (.double d1)) (by rw [e57]; exact Ar58.1) (State.isArrayOf_alike hZ.alike Ar58.2.1) Ar58.2.2 hi58 (Has.at Ha58 hi58 rfl) (g := (mkF m 123 #[.val (.ref u0), .val (.int (4 : Int32)), .val (.double fv33), .second, .val (.ref b36), .val (.int (3 : Int32))] [(.int (1 : Int32)), (.ref u0), (.int (7 : Int32)), (.ref b36)])) rfl rfl (hb hby d2_123)
  obtain ⟨cl59, Ar59, qa59, Sa59, Na59, Ha59, Ga59⟩ := id V57
  obtain ⟨T60, h60, X60, e60, W60, st60⟩ := stD X57 hx hZ e57 Ar59 (j := (7 : Int32)) (inb_of Sa59 ⟨by decide, by decide⟩) (g := (mkF m 124 #[.val (.ref u0), .val (.int (4 : Int32)), .val (.double fv33), .second, .val (.ref b36), .val (.int (3 : Int32))] [(.double d1), (.int (7 : Int32)), (.ref b36)])) rfl rfl (hb hby d2_124)
  have V60 : Arv Z h60 b36 k36 .double (8 : Int32) [(.double d6), (.double d7), (.double d4), (.double d5), (.double d2), (.double d3), (.double d0), (.double d1)] (.double (0 : UInt64)) := Arv.set Ar59 qa59 Sa59 Na59 Ha59 Ga59 rfl W60 7 rfl (Nat.le_of_ble_eq_true rfl)
  have N60 := Fr.snoc X60 N57 g_b36
  have Z60 : n0 ≤ h60.size := Nat.le_trans Z57 (Keep.of_wr W60).1
  have KK60 := KK57.wr W60 (Or.inr sz_b36)
  obtain ⟨fs, hr, hrun, hended, hW, hsame⟩ := X60.leave (v := some (.ref b36)) (fun h => by rw [Bd.returns] at h; cases h)
  refine ⟨_, _, pre0 _ ?_, hrun, hended, _, _, rfl, ?_, ⟨_, rfl⟩, hW, hsame.mono (by decide) (by decide)⟩
  · show Steps p.tables e below (s₁.setTop (mkF m 0 #[.val (.ref u0), .unset, .unset, .unset, .unset, .unset] [])) _
    refine XS.aloadN X0.here hx rfl (hb hby d2_0) rfl rfl ?_
    refine st1 _ ?_
    show Steps p.tables e below (s₁.setTop (mkF m 2 #[.val (.ref u0), .unset, .unset, .unset, .unset, .unset] [(.int (8 : Int32))])) _
    refine XS.iconst X0.here hx rfl (hb hby d2_2) ?_
    show Steps p.tables e below (s₁.setTop (mkF m 3 #[.val (.ref u0), .unset, .unset, .unset, .unset, .unset] [(.int (2 : Int32)), (.int (8 : Int32))])) _
    refine XS.idiv X0.here hx rfl (hb hby d2_3) rfl (by decide) ?_
    show Steps p.tables e below (s₁.setTop (mkF m 4 #[.val (.ref u0), .unset, .unset, .unset, .unset, .unset] [(.int (4 : Int32))])) _
    refine XS.istoreN X0.here hx rfl (hb hby d2_4) rfl (l' := #[.val (.ref u0), .val (.int (4 : Int32)), .unset, .unset, .unset, .unset]) rfl ?_
    refine XS.dconst0 X0.here hx rfl (hb hby d2_5) (v := 0) (by decide +kernel) ?_
    refine XS.dstoreN X0.here hx rfl (hb hby d2_6) rfl (l' := #[.val (.ref u0), .val (.int (4 : Int32)), .val (.double (0 : UInt64)), .second, .unset, .unset]) rfl ?_
    refine XS.iconst X0.here hx rfl (hb hby d2_7) ?_
    refine XS.istore X0.here hx rfl (hb hby d2_8) rfl (l' := #[.val (.ref u0), .val (.int (4 : Int32)), .val (.double (0 : UInt64)), .second, .val (.int (0 : Int32)), .unset]) rfl ?_
    refine XS.iload X0.here hx rfl (hb hby d2_10) rfl ?_
    refine XS.iloadN X0.here hx rfl (hb hby d2_12) rfl ?_
    refine XS.icmpNo X0.here hx rfl (hb hby d2_13) rfl (tlt (by decide)).2.1 ?_
    refine XS.iload X0.here hx rfl (hb hby d2_16) rfl ?_
    refine XS.iconst X0.here hx rfl (hb hby d2_18) ?_
    show Steps p.tables e below (s₁.setTop (mkF m 19 #[.val (.ref u0), .val (.int (4 : Int32)), .val (.double (0 : UInt64)), .second, .val (.int (0 : Int32)), .unset] [(.int (1 : Int32)), (.int (0 : Int32))])) _
    refine XS.iadd X0.here hx rfl (hb hby d2_19) rfl ?_
    show Steps p.tables e below (s₁.setTop (mkF m 20 #[.val (.ref u0), .val (.int (4 : Int32)), .val (.double (0 : UInt64)), .second, .val (.int (0 : Int32)), .unset] [(.int (1 : Int32))])) _
    refine XS.iloadN X0.here hx rfl (hb hby d2_20) rfl ?_
    show Steps p.tables e below (s₁.setTop (mkF m 21 #[.val (.ref u0), .val (.int (4 : Int32)), .val (.double (0 : UInt64)), .second, .val (.int (0 : Int32)), .unset] [(.int (4 : Int32)), (.int (1 : Int32))])) _
    refine iremM X0 hx rfl (hb hby d2_21) rfl (by decide) ?_
    show Steps p.tables e below (s₁.setTop (mkF m 22 #[.val (.ref u0), .val (.int (4 : Int32)), .val (.double (0 : UInt64)), .second, .val (.int (0 : Int32)), .unset] [(.int (1 : Int32))])) _
    refine XS.istore X0.here hx rfl (hb hby d2_22) rfl (l' := #[.val (.ref u0), .val (.int (4 : Int32)), .val (.double (0 : UInt64)), .second, .val (.int (0 : Int32)), .val (.int (1 : Int32))]) rfl ?_
    refine XS.dloadN X0.here hx rfl (hb hby d2_24) rfl ?_
    refine XS.aloadN X0.here hx rfl (hb hby d2_25) rfl rfl ?_
    refine XS.iconst X0.here hx rfl (hb hby d2_26) ?_
    refine XS.iload X0.here hx rfl (hb hby d2_27) rfl ?_
    show Steps p.tables e below (s₁.setTop (mkF m 29 #[.val (.ref u0), .val (.int (4 : Int32)), .val (.double (0 : UInt64)), .second, .val (.int (0 : Int32)), .val (.int (1 : Int32))] [(.int (0 : Int32)), (.int (2 : Int32)), (.ref u0), (.double (0 : UInt64))])) _
    refine XS.imul X0.here hx rfl (hb hby d2_29) rfl ?_
    refine st2 _ ?_
    show Steps p.tables e below (s₁.setTop (mkF m 31 #[.val (.ref u0), .val (.int (4 : Int32)), .val (.double (0 : UInt64)), .second, .val (.int (0 : Int32)), .val (.int (1 : Int32))] [(.double d0), (.double (0 : UInt64))])) _
    refine XS.aloadN X0.here hx rfl (hb hby d2_31) rfl rfl ?_
    refine XS.iconst X0.here hx rfl (hb hby d2_32) ?_
    refine XS.iload X0.here hx rfl (hb hby d2_33) rfl ?_
    show Steps p.tables e below (s₁.setTop (mkF m 35 #[.val (.ref u0), .val (.int (4 : Int32)), .val (.double (0 : UInt64)), .second, .val (.int (0 : Int32)), .val (.int (1 : Int32))] [(.int (1 : Int32)), (.int (2 : Int32)), (.ref u0), (.double d0), (.double (0 : UInt64))])) _
    refine XS.imul X0.here hx rfl (hb hby d2_35) rfl ?_
    show Steps p.tables e below (s₁.setTop (mkF m 36 #[.val (.ref u0), .val (.int (4 : Int32)), .val (.double (0 : UInt64)), .second, .val (.int (0 : Int32)), .val (.int (1 : Int32))] [(.int (2 : Int32)), (.ref u0), (.double d0), (.double (0 : UInt64))])) _
    refine XS.iconst X0.here hx rfl (hb hby d2_36) ?_
    show Steps p.tables e below (s₁.setTop (mkF m 37 #[.val (.ref u0), .val (.int (4 : Int32)), .val (.double (0 : UInt64)), .second, .val (.int (0 : Int32)), .val (.int (1 : Int32))] [(.int (1 : Int32)), (.int (2 : Int32)), (.ref u0), (.double d0), (.double (0 : UInt64))])) _
    refine XS.iadd X0.here hx rfl (hb hby d2_37) rfl ?_
    refine st3 _ ?_
    show Steps p.tables e below (s₁.setTop (mkF m 39 #[.val (.ref u0), .val (.int (4 : Int32)), .val (.double (0 : UInt64)), .second, .val (.int (0 : Int32)), .val (.int (1 : Int32))] [(.double d3), (.double d0), (.double (0 : UInt64))])) _
    refine XS.dmulS X0.here hx rfl (hb hby d2_39) rfl (v := fv4) (by rw [← fe4]; exact di4.nn) fe4.symm ?_
    refine XS.aloadN X0.here hx rfl (hb hby d2_40) rfl rfl ?_
    refine XS.iconst X0.here hx rfl (hb hby d2_41) ?_
    refine XS.iload X0.here hx rfl (hb hby d2_42) rfl ?_
    show Steps p.tables e below (s₁.setTop (mkF m 44 #[.val (.ref u0), .val (.int (4 : Int32)), .val (.double (0 : UInt64)), .second, .val (.int (0 : Int32)), .val (.int (1 : Int32))] [(.int (1 : Int32)), (.int (2 : Int32)), (.ref u0), (.double fv4), (.double (0 : UInt64))])) _
    refine XS.imul X0.here hx rfl (hb hby d2_44) rfl ?_
    refine st5 _ ?_
    show Steps p.tables e below (s₁.setTop (mkF m 46 #[.val (.ref u0), .val (.int (4 : Int32)), .val (.double (0 : UInt64)), .second, .val (.int (0 : Int32)), .val (.int (1 : Int32))] [(.double d2), (.double fv4), (.double (0 : UInt64))])) _
    refine XS.aloadN X0.here hx rfl (hb hby d2_46) rfl rfl ?_
    refine XS.iconst X0.here hx rfl (hb hby d2_47) ?_
    refine XS.iload X0.here hx rfl (hb hby d2_48) rfl ?_
    show Steps p.tables e below (s₁.setTop (mkF m 50 #[.val (.ref u0), .val (.int (4 : Int32)), .val (.double (0 : UInt64)), .second, .val (.int (0 : Int32)), .val (.int (1 : Int32))] [(.int (0 : Int32)), (.int (2 : Int32)), (.ref u0), (.double d2), (.double fv4), (.double (0 : UInt64))])) _
    refine XS.imul X0.here hx rfl (hb hby d2_50) rfl ?_
    show Steps p.tables e below (s₁.setTop (mkF m 51 #[.val (.ref u0), .val (.int (4 : Int32)), .val (.double (0 : UInt64)), .second, .val (.int (0 : Int32)), .val (.int (1 : Int32))] [(.int (0 : Int32)), (.ref u0), (.double d2), (.double fv4), (.double (0 : UInt64))])) _
    refine XS.iconst X0.here hx rfl (hb hby d2_51) ?_
    show Steps p.tables e below (s₁.setTop (mkF m 52 #[.val (.ref u0), .val (.int (4 : Int32)), .val (.double (0 : UInt64)), .second, .val (.int (0 : Int32)), .val (.int (1 : Int32))] [(.int (1 : Int32)), (.int (0 : Int32)), (.ref u0), (.double d2), (.double fv4), (.double (0 : UInt64))])) _
    refine XS.iadd X0.here hx rfl (hb hby d2_52) rfl ?_
    refine st6 _ ?_
    show Steps p.tables e below (s₁.setTop (mkF m 54 #[.val (.ref u0), .val (.int (4 : Int32)), .val (.double (0 : UInt64)), .second, .val (.int (0 : Int32)), .val (.int (1 : Int32))] [(.double d1), (.double d2), (.double fv4), (.double (0 : UInt64))])) _
    refine XS.dmulS X0.here hx rfl (hb hby d2_54) rfl (v := fv7) (by rw [← fe7]; exact di7.nn) fe7.symm ?_
    refine XS.dsubS X0.here hx rfl (hb hby d2_55) rfl (v := fv8) (by rw [← fe8]; exact di8.nn) fe8.symm ?_
    refine XS.daddS X0.here hx rfl (hb hby d2_56) rfl (v := fv9) (by rw [← fe9]; exact di9.nn) fe9.symm ?_
    refine XS.dstoreN X0.here hx rfl (hb hby d2_57) rfl (l' := #[.val (.ref u0), .val (.int (4 : Int32)), .val (.double fv9), .second, .val (.int (0 : Int32)), .val (.int (1 : Int32))]) rfl ?_
    show Steps p.tables e below (s₁.setTop (mkF m 58 #[.val (.ref u0), .val (.int (4 : Int32)), .val (.double fv9), .second, .val (.int (0 : Int32)), .val (.int (1 : Int32))] [])) _
    refine XS.iinc X0.here hx rfl (hb hby d2_58) rfl (l' := #[.val (.ref u0), .val (.int (4 : Int32)), .val (.double fv9), .second, .val (.int (1 : Int32)), .val (.int (1 : Int32))]) rfl ?_
    show Steps p.tables e below (s₁.setTop (mkF m 61 #[.val (.ref u0), .val (.int (4 : Int32)), .val (.double fv9), .second, .val (.int (1 : Int32)), .val (.int (1 : Int32))] [])) _
    refine XS.goto X0.here hx rfl (pc0 := 61) (pc' := 10) rfl (hb hby d2_61) (by decide) (by decide) ?_
    refine XS.iload X0.here hx rfl (hb hby d2_10) rfl ?_
    refine XS.iloadN X0.here hx rfl (hb hby d2_12) rfl ?_
    refine XS.icmpNo X0.here hx rfl (hb hby d2_13) rfl (tlt (by decide)).2.1 ?_
    refine XS.iload X0.here hx rfl (hb hby d2_16) rfl ?_
    refine XS.iconst X0.here hx rfl (hb hby d2_18) ?_
    show Steps p.tables e below (s₁.setTop (mkF m 19 #[.val (.ref u0), .val (.int (4 : Int32)), .val (.double fv9), .second, .val (.int (1 : Int32)), .val (.int (1 : Int32))] [(.int (1 : Int32)), (.int (1 : Int32))])) _
    refine XS.iadd X0.here hx rfl (hb hby d2_19) rfl ?_
    show Steps p.tables e below (s₁.setTop (mkF m 20 #[.val (.ref u0), .val (.int (4 : Int32)), .val (.double fv9), .second, .val (.int (1 : Int32)), .val (.int (1 : Int32))] [(.int (2 : Int32))])) _
    refine XS.iloadN X0.here hx rfl (hb hby d2_20) rfl ?_
    show Steps p.tables e below (s₁.setTop (mkF m 21 #[.val (.ref u0), .val (.int (4 : Int32)), .val (.double fv9), .second, .val (.int (1 : Int32)), .val (.int (1 : Int32))] [(.int (4 : Int32)), (.int (2 : Int32))])) _
    refine iremM X0 hx rfl (hb hby d2_21) rfl (by decide) ?_
    show Steps p.tables e below (s₁.setTop (mkF m 22 #[.val (.ref u0), .val (.int (4 : Int32)), .val (.double fv9), .second, .val (.int (1 : Int32)), .val (.int (1 : Int32))] [(.int (2 : Int32))])) _
    refine XS.istore X0.here hx rfl (hb hby d2_22) rfl (l' := #[.val (.ref u0), .val (.int (4 : Int32)), .val (.double fv9), .second, .val (.int (1 : Int32)), .val (.int (2 : Int32))]) rfl ?_
    refine XS.dloadN X0.here hx rfl (hb hby d2_24) rfl ?_
    refine XS.aloadN X0.here hx rfl (hb hby d2_25) rfl rfl ?_
    refine XS.iconst X0.here hx rfl (hb hby d2_26) ?_
    refine XS.iload X0.here hx rfl (hb hby d2_27) rfl ?_
    show Steps p.tables e below (s₁.setTop (mkF m 29 #[.val (.ref u0), .val (.int (4 : Int32)), .val (.double fv9), .second, .val (.int (1 : Int32)), .val (.int (2 : Int32))] [(.int (1 : Int32)), (.int (2 : Int32)), (.ref u0), (.double fv9)])) _
    refine XS.imul X0.here hx rfl (hb hby d2_29) rfl ?_
    refine st10 _ ?_
    show Steps p.tables e below (s₁.setTop (mkF m 31 #[.val (.ref u0), .val (.int (4 : Int32)), .val (.double fv9), .second, .val (.int (1 : Int32)), .val (.int (2 : Int32))] [(.double d2), (.double fv9)])) _
    refine XS.aloadN X0.here hx rfl (hb hby d2_31) rfl rfl ?_
    refine XS.iconst X0.here hx rfl (hb hby d2_32) ?_
    refine XS.iload X0.here hx rfl (hb hby d2_33) rfl ?_
    show Steps p.tables e below (s₁.setTop (mkF m 35 #[.val (.ref u0), .val (.int (4 : Int32)), .val (.double fv9), .second, .val (.int (1 : Int32)), .val (.int (2 : Int32))] [(.int (2 : Int32)), (.int (2 : Int32)), (.ref u0), (.double d2), (.double fv9)])) _
    refine XS.imul X0.here hx rfl (hb hby d2_35) rfl ?_
    show Steps p.tables e below (s₁.setTop (mkF m 36 #[.val (.ref u0), .val (.int (4 : Int32)), .val (.double fv9), .second, .val (.int (1 : Int32)), .val (.int (2 : Int32))] [(.int (4 : Int32)), (.ref u0), (.double d2), (.double fv9)])) _
    refine XS.iconst X0.here hx rfl (hb hby d2_36) ?_
    show Steps p.tables e below (s₁.setTop (mkF m 37 #[.val (.ref u0), .val (.int (4 : Int32)), .val (.double fv9), .second, .val (.int (1 : Int32)), .val (.int (2 : Int32))] [(.int (1 : Int32)), (.int (4 : Int32)), (.ref u0), (.double d2), (.double fv9)])) _
    refine XS.iadd X0.here hx rfl (hb hby d2_37) rfl ?_
    refine st11 _ ?_
    show Steps p.tables e below (s₁.setTop (mkF m 39 #[.val (.ref u0), .val (.int (4 : Int32)), .val (.double fv9), .second, .val (.int (1 : Int32)), .val (.int (2 : Int32))] [(.double d5), (.double d2), (.double fv9)])) _
    refine XS.dmulS X0.here hx rfl (hb hby d2_39) rfl (v := fv12) (by rw [← fe12]; exact di12.nn) fe12.symm ?_
    refine XS.aloadN X0.here hx rfl (hb hby d2_40) rfl rfl ?_
    refine XS.iconst X0.here hx rfl (hb hby d2_41) ?_
    refine XS.iload X0.here hx rfl (hb hby d2_42) rfl ?_
    show Steps p.tables e below (s₁.setTop (mkF m 44 #[.val (.ref u0), .val (.int (4 : Int32)), .val (.double fv9), .second, .val (.int (1 : Int32)), .val (.int (2 : Int32))] [(.int (2 : Int32)), (.int (2 : Int32)), (.ref u0), (.double fv12), (.double fv9)])) _
    refine XS.imul X0.here hx rfl (hb hby d2_44) rfl ?_
    refine st13 _ ?_
    show Steps p.tables e below (s₁.setTop (mkF m 46 #[.val (.ref u0), .val (.int (4 : Int32)), .val (.double fv9), .second, .val (.int (1 : Int32)), .val (.int (2 : Int32))] [(.double d4), (.double fv12), (.double fv9)])) _
    refine XS.aloadN X0.here hx rfl (hb hby d2_46) rfl rfl ?_
    refine XS.iconst X0.here hx rfl (hb hby d2_47) ?_
    refine XS.iload X0.here hx rfl (hb hby d2_48) rfl ?_
    show Steps p.tables e below (s₁.setTop (mkF m 50 #[.val (.ref u0), .val (.int (4 : Int32)), .val (.double fv9), .second, .val (.int (1 : Int32)), .val (.int (2 : Int32))] [(.int (1 : Int32)), (.int (2 : Int32)), (.ref u0), (.double d4), (.double fv12), (.double fv9)])) _
    refine XS.imul X0.here hx rfl (hb hby d2_50) rfl ?_
    show Steps p.tables e below (s₁.setTop (mkF m 51 #[.val (.ref u0), .val (.int (4 : Int32)), .val (.double fv9), .second, .val (.int (1 : Int32)), .val (.int (2 : Int32))] [(.int (2 : Int32)), (.ref u0), (.double d4), (.double fv12), (.double fv9)])) _
    refine XS.iconst X0.here hx rfl (hb hby d2_51) ?_
    show Steps p.tables e below (s₁.setTop (mkF m 52 #[.val (.ref u0), .val (.int (4 : Int32)), .val (.double fv9), .second, .val (.int (1 : Int32)), .val (.int (2 : Int32))] [(.int (1 : Int32)), (.int (2 : Int32)), (.ref u0), (.double d4), (.double fv12), (.double fv9)])) _
    refine XS.iadd X0.here hx rfl (hb hby d2_52) rfl ?_
    refine st14 _ ?_
    show Steps p.tables e below (s₁.setTop (mkF m 54 #[.val (.ref u0), .val (.int (4 : Int32)), .val (.double fv9), .second, .val (.int (1 : Int32)), .val (.int (2 : Int32))] [(.double d3), (.double d4), (.double fv12), (.double fv9)])) _
    refine XS.dmulS X0.here hx rfl (hb hby d2_54) rfl (v := fv15) (by rw [← fe15]; exact di15.nn) fe15.symm ?_
    refine XS.dsubS X0.here hx rfl (hb hby d2_55) rfl (v := fv16) (by rw [← fe16]; exact di16.nn) fe16.symm ?_
    refine XS.daddS X0.here hx rfl (hb hby d2_56) rfl (v := fv17) (by rw [← fe17]; exact di17.nn) fe17.symm ?_
    refine XS.dstoreN X0.here hx rfl (hb hby d2_57) rfl (l' := #[.val (.ref u0), .val (.int (4 : Int32)), .val (.double fv17), .second, .val (.int (1 : Int32)), .val (.int (2 : Int32))]) rfl ?_
    show Steps p.tables e below (s₁.setTop (mkF m 58 #[.val (.ref u0), .val (.int (4 : Int32)), .val (.double fv17), .second, .val (.int (1 : Int32)), .val (.int (2 : Int32))] [])) _
    refine XS.iinc X0.here hx rfl (hb hby d2_58) rfl (l' := #[.val (.ref u0), .val (.int (4 : Int32)), .val (.double fv17), .second, .val (.int (2 : Int32)), .val (.int (2 : Int32))]) rfl ?_
    show Steps p.tables e below (s₁.setTop (mkF m 61 #[.val (.ref u0), .val (.int (4 : Int32)), .val (.double fv17), .second, .val (.int (2 : Int32)), .val (.int (2 : Int32))] [])) _
    refine XS.goto X0.here hx rfl (pc0 := 61) (pc' := 10) rfl (hb hby d2_61) (by decide) (by decide) ?_
    refine XS.iload X0.here hx rfl (hb hby d2_10) rfl ?_
    refine XS.iloadN X0.here hx rfl (hb hby d2_12) rfl ?_
    refine XS.icmpNo X0.here hx rfl (hb hby d2_13) rfl (tlt (by decide)).2.1 ?_
    refine XS.iload X0.here hx rfl (hb hby d2_16) rfl ?_
    refine XS.iconst X0.here hx rfl (hb hby d2_18) ?_
    show Steps p.tables e below (s₁.setTop (mkF m 19 #[.val (.ref u0), .val (.int (4 : Int32)), .val (.double fv17), .second, .val (.int (2 : Int32)), .val (.int (2 : Int32))] [(.int (1 : Int32)), (.int (2 : Int32))])) _
    refine XS.iadd X0.here hx rfl (hb hby d2_19) rfl ?_
    show Steps p.tables e below (s₁.setTop (mkF m 20 #[.val (.ref u0), .val (.int (4 : Int32)), .val (.double fv17), .second, .val (.int (2 : Int32)), .val (.int (2 : Int32))] [(.int (3 : Int32))])) _
    refine XS.iloadN X0.here hx rfl (hb hby d2_20) rfl ?_
    show Steps p.tables e below (s₁.setTop (mkF m 21 #[.val (.ref u0), .val (.int (4 : Int32)), .val (.double fv17), .second, .val (.int (2 : Int32)), .val (.int (2 : Int32))] [(.int (4 : Int32)), (.int (3 : Int32))])) _
    refine iremM X0 hx rfl (hb hby d2_21) rfl (by decide) ?_
    show Steps p.tables e below (s₁.setTop (mkF m 22 #[.val (.ref u0), .val (.int (4 : Int32)), .val (.double fv17), .second, .val (.int (2 : Int32)), .val (.int (2 : Int32))] [(.int (3 : Int32))])) _
    refine XS.istore X0.here hx rfl (hb hby d2_22) rfl (l' := #[.val (.ref u0), .val (.int (4 : Int32)), .val (.double fv17), .second, .val (.int (2 : Int32)), .val (.int (3 : Int32))]) rfl ?_
    refine XS.dloadN X0.here hx rfl (hb hby d2_24) rfl ?_
    refine XS.aloadN X0.here hx rfl (hb hby d2_25) rfl rfl ?_
    refine XS.iconst X0.here hx rfl (hb hby d2_26) ?_
    refine XS.iload X0.here hx rfl (hb hby d2_27) rfl ?_
    show Steps p.tables e below (s₁.setTop (mkF m 29 #[.val (.ref u0), .val (.int (4 : Int32)), .val (.double fv17), .second, .val (.int (2 : Int32)), .val (.int (3 : Int32))] [(.int (2 : Int32)), (.int (2 : Int32)), (.ref u0), (.double fv17)])) _
    refine XS.imul X0.here hx rfl (hb hby d2_29) rfl ?_
    refine st18 _ ?_
    show Steps p.tables e below (s₁.setTop (mkF m 31 #[.val (.ref u0), .val (.int (4 : Int32)), .val (.double fv17), .second, .val (.int (2 : Int32)), .val (.int (3 : Int32))] [(.double d4), (.double fv17)])) _
    refine XS.aloadN X0.here hx rfl (hb hby d2_31) rfl rfl ?_
    refine XS.iconst X0.here hx rfl (hb hby d2_32) ?_
    refine XS.iload X0.here hx rfl (hb hby d2_33) rfl ?_
    show Steps p.tables e below (s₁.setTop (mkF m 35 #[.val (.ref u0), .val (.int (4 : Int32)), .val (.double fv17), .second, .val (.int (2 : Int32)), .val (.int (3 : Int32))] [(.int (3 : Int32)), (.int (2 : Int32)), (.ref u0), (.double d4), (.double fv17)])) _
    refine XS.imul X0.here hx rfl (hb hby d2_35) rfl ?_
    show Steps p.tables e below (s₁.setTop (mkF m 36 #[.val (.ref u0), .val (.int (4 : Int32)), .val (.double fv17), .second, .val (.int (2 : Int32)), .val (.int (3 : Int32))] [(.int (6 : Int32)), (.ref u0), (.double d4), (.double fv17)])) _
    refine XS.iconst X0.here hx rfl (hb hby d2_36) ?_
    show Steps p.tables e below (s₁.setTop (mkF m 37 #[.val (.ref u0), .val (.int (4 : Int32)), .val (.double fv17), .second, .val (.int (2 : Int32)), .val (.int (3 : Int32))] [(.int (1 : Int32)), (.int (6 : Int32)), (.ref u0), (.double d4), (.double fv17)])) _
    refine XS.iadd X0.here hx rfl (hb hby d2_37) rfl ?_
    refine st19 _ ?_
    show Steps p.tables e below (s₁.setTop (mkF m 39 #[.val (.ref u0), .val (.int (4 : Int32)), .val (.double fv17), .second, .val (.int (2 : Int32)), .val (.int (3 : Int32))] [(.double d7), (.double d4), (.double fv17)])) _
    refine XS.dmulS X0.here hx rfl (hb hby d2_39) rfl (v := fv20) (by rw [← fe20]; exact di20.nn) fe20.symm ?_
    refine XS.aloadN X0.here hx rfl (hb hby d2_40) rfl rfl ?_
    refine XS.iconst X0.here hx rfl (hb hby d2_41) ?_
    refine XS.iload X0.here hx rfl (hb hby d2_42) rfl ?_
    show Steps p.tables e below (s₁.setTop (mkF m 44 #[.val (.ref u0), .val (.int (4 : Int32)), .val (.double fv17), .second, .val (.int (2 : Int32)), .val (.int (3 : Int32))] [(.int (3 : Int32)), (.int (2 : Int32)), (.ref u0), (.double fv20), (.double fv17)])) _
    refine XS.imul X0.here hx rfl (hb hby d2_44) rfl ?_
    refine st21 _ ?_
    show Steps p.tables e below (s₁.setTop (mkF m 46 #[.val (.ref u0), .val (.int (4 : Int32)), .val (.double fv17), .second, .val (.int (2 : Int32)), .val (.int (3 : Int32))] [(.double d6), (.double fv20), (.double fv17)])) _
    refine XS.aloadN X0.here hx rfl (hb hby d2_46) rfl rfl ?_
    refine XS.iconst X0.here hx rfl (hb hby d2_47) ?_
    refine XS.iload X0.here hx rfl (hb hby d2_48) rfl ?_
    show Steps p.tables e below (s₁.setTop (mkF m 50 #[.val (.ref u0), .val (.int (4 : Int32)), .val (.double fv17), .second, .val (.int (2 : Int32)), .val (.int (3 : Int32))] [(.int (2 : Int32)), (.int (2 : Int32)), (.ref u0), (.double d6), (.double fv20), (.double fv17)])) _
    refine XS.imul X0.here hx rfl (hb hby d2_50) rfl ?_
    show Steps p.tables e below (s₁.setTop (mkF m 51 #[.val (.ref u0), .val (.int (4 : Int32)), .val (.double fv17), .second, .val (.int (2 : Int32)), .val (.int (3 : Int32))] [(.int (4 : Int32)), (.ref u0), (.double d6), (.double fv20), (.double fv17)])) _
    refine XS.iconst X0.here hx rfl (hb hby d2_51) ?_
    show Steps p.tables e below (s₁.setTop (mkF m 52 #[.val (.ref u0), .val (.int (4 : Int32)), .val (.double fv17), .second, .val (.int (2 : Int32)), .val (.int (3 : Int32))] [(.int (1 : Int32)), (.int (4 : Int32)), (.ref u0), (.double d6), (.double fv20), (.double fv17)])) _
    refine XS.iadd X0.here hx rfl (hb hby d2_52) rfl ?_
    refine st22 _ ?_
    show Steps p.tables e below (s₁.setTop (mkF m 54 #[.val (.ref u0), .val (.int (4 : Int32)), .val (.double fv17), .second, .val (.int (2 : Int32)), .val (.int (3 : Int32))] [(.double d5), (.double d6), (.double fv20), (.double fv17)])) _
    refine XS.dmulS X0.here hx rfl (hb hby d2_54) rfl (v := fv23) (by rw [← fe23]; exact di23.nn) fe23.symm ?_
    refine XS.dsubS X0.here hx rfl (hb hby d2_55) rfl (v := fv24) (by rw [← fe24]; exact di24.nn) fe24.symm ?_
    refine XS.daddS X0.here hx rfl (hb hby d2_56) rfl (v := fv25) (by rw [← fe25]; exact di25.nn) fe25.symm ?_
    refine XS.dstoreN X0.here hx rfl (hb hby d2_57) rfl (l' := #[.val (.ref u0), .val (.int (4 : Int32)), .val (.double fv25), .second, .val (.int (2 : Int32)), .val (.int (3 : Int32))]) rfl ?_
    show Steps p.tables e below (s₁.setTop (mkF m 58 #[.val (.ref u0), .val (.int (4 : Int32)), .val (.double fv25), .second, .val (.int (2 : Int32)), .val (.int (3 : Int32))] [])) _
    refine XS.iinc X0.here hx rfl (hb hby d2_58) rfl (l' := #[.val (.ref u0), .val (.int (4 : Int32)), .val (.double fv25), .second, .val (.int (3 : Int32)), .val (.int (3 : Int32))]) rfl ?_
    show Steps p.tables e below (s₁.setTop (mkF m 61 #[.val (.ref u0), .val (.int (4 : Int32)), .val (.double fv25), .second, .val (.int (3 : Int32)), .val (.int (3 : Int32))] [])) _
    refine XS.goto X0.here hx rfl (pc0 := 61) (pc' := 10) rfl (hb hby d2_61) (by decide) (by decide) ?_
    refine XS.iload X0.here hx rfl (hb hby d2_10) rfl ?_
    refine XS.iloadN X0.here hx rfl (hb hby d2_12) rfl ?_
    refine XS.icmpNo X0.here hx rfl (hb hby d2_13) rfl (tlt (by decide)).2.1 ?_
    refine XS.iload X0.here hx rfl (hb hby d2_16) rfl ?_
    refine XS.iconst X0.here hx rfl (hb hby d2_18) ?_
    show Steps p.tables e below (s₁.setTop (mkF m 19 #[.val (.ref u0), .val (.int (4 : Int32)), .val (.double fv25), .second, .val (.int (3 : Int32)), .val (.int (3 : Int32))] [(.int (1 : Int32)), (.int (3 : Int32))])) _
    refine XS.iadd X0.here hx rfl (hb hby d2_19) rfl ?_
    show Steps p.tables e below (s₁.setTop (mkF m 20 #[.val (.ref u0), .val (.int (4 : Int32)), .val (.double fv25), .second, .val (.int (3 : Int32)), .val (.int (3 : Int32))] [(.int (4 : Int32))])) _
    refine XS.iloadN X0.here hx rfl (hb hby d2_20) rfl ?_
    show Steps p.tables e below (s₁.setTop (mkF m 21 #[.val (.ref u0), .val (.int (4 : Int32)), .val (.double fv25), .second, .val (.int (3 : Int32)), .val (.int (3 : Int32))] [(.int (4 : Int32)), (.int (4 : Int32))])) _
    refine iremM X0 hx rfl (hb hby d2_21) rfl (by decide) ?_
    show Steps p.tables e below (s₁.setTop (mkF m 22 #[.val (.ref u0), .val (.int (4 : Int32)), .val (.double fv25), .second, .val (.int (3 : Int32)), .val (.int (3 : Int32))] [(.int (0 : Int32))])) _
    refine XS.istore X0.here hx rfl (hb hby d2_22) rfl (l' := #[.val (.ref u0), .val (.int (4 : Int32)), .val (.double fv25), .second, .val (.int (3 : Int32)), .val (.int (0 : Int32))]) rfl ?_
    refine XS.dloadN X0.here hx rfl (hb hby d2_24) rfl ?_
    refine XS.aloadN X0.here hx rfl (hb hby d2_25) rfl rfl ?_
    refine XS.iconst X0.here hx rfl (hb hby d2_26) ?_
    refine XS.iload X0.here hx rfl (hb hby d2_27) rfl ?_
    show Steps p.tables e below (s₁.setTop (mkF m 29 #[.val (.ref u0), .val (.int (4 : Int32)), .val (.double fv25), .second, .val (.int (3 : Int32)), .val (.int (0 : Int32))] [(.int (3 : Int32)), (.int (2 : Int32)), (.ref u0), (.double fv25)])) _
    refine XS.imul X0.here hx rfl (hb hby d2_29) rfl ?_
    refine st26 _ ?_
    show Steps p.tables e below (s₁.setTop (mkF m 31 #[.val (.ref u0), .val (.int (4 : Int32)), .val (.double fv25), .second, .val (.int (3 : Int32)), .val (.int (0 : Int32))] [(.double d6), (.double fv25)])) _
    refine XS.aloadN X0.here hx rfl (hb hby d2_31) rfl rfl ?_
    refine XS.iconst X0.here hx rfl (hb hby d2_32) ?_
    refine XS.iload X0.here hx rfl (hb hby d2_33) rfl ?_
    show Steps p.tables e below (s₁.setTop (mkF m 35 #[.val (.ref u0), .val (.int (4 : Int32)), .val (.double fv25), .second, .val (.int (3 : Int32)), .val (.int (0 : Int32))] [(.int (0 : Int32)), (.int (2 : Int32)), (.ref u0), (.double d6), (.double fv25)])) _
    refine XS.imul X0.here hx rfl (hb hby d2_35) rfl ?_
    show Steps p.tables e below (s₁.setTop (mkF m 36 #[.val (.ref u0), .val (.int (4 : Int32)), .val (.double fv25), .second, .val (.int (3 : Int32)), .val (.int (0 : Int32))] [(.int (0 : Int32)), (.ref u0), (.double d6), (.double fv25)])) _
    refine XS.iconst X0.here hx rfl (hb hby d2_36) ?_
    show Steps p.tables e below (s₁.setTop (mkF m 37 #[.val (.ref u0), .val (.int (4 : Int32)), .val (.double fv25), .second, .val (.int (3 : Int32)), .val (.int (0 : Int32))] [(.int (1 : Int32)), (.int (0 : Int32)), (.ref u0), (.double d6), (.double fv25)])) _
    refine XS.iadd X0.here hx rfl (hb hby d2_37) rfl ?_
    refine st27 _ ?_
    show Steps p.tables e below (s₁.setTop (mkF m 39 #[.val (.ref u0), .val (.int (4 : Int32)), .val (.double fv25), .second, .val (.int (3 : Int32)), .val (.int (0 : Int32))] [(.double d1), (.double d6), (.double fv25)])) _
    refine XS.dmulS X0.here hx rfl (hb hby d2_39) rfl (v := fv28) (by rw [← fe28]; exact di28.nn) fe28.symm ?_
    refine XS.aloadN X0.here hx rfl (hb hby d2_40) rfl rfl ?_
    refine XS.iconst X0.here hx rfl (hb hby d2_41) ?_
    refine XS.iload X0.here hx rfl (hb hby d2_42) rfl ?_
    show Steps p.tables e below (s₁.setTop (mkF m 44 #[.val (.ref u0), .val (.int (4 : Int32)), .val (.double fv25), .second, .val (.int (3 : Int32)), .val (.int (0 : Int32))] [(.int (0 : Int32)), (.int (2 : Int32)), (.ref u0), (.double fv28), (.double fv25)])) _
    refine XS.imul X0.here hx rfl (hb hby d2_44) rfl ?_
    refine st29 _ ?_
    show Steps p.tables e below (s₁.setTop (mkF m 46 #[.val (.ref u0), .val (.int (4 : Int32)), .val (.double fv25), .second, .val (.int (3 : Int32)), .val (.int (0 : Int32))] [(.double d0), (.double fv28), (.double fv25)])) _
    refine XS.aloadN X0.here hx rfl (hb hby d2_46) rfl rfl ?_
    refine XS.iconst X0.here hx rfl (hb hby d2_47) ?_
    refine XS.iload X0.here hx rfl (hb hby d2_48) rfl ?_
    show Steps p.tables e below (s₁.setTop (mkF m 50 #[.val (.ref u0), .val (.int (4 : Int32)), .val (.double fv25), .second, .val (.int (3 : Int32)), .val (.int (0 : Int32))] [(.int (3 : Int32)), (.int (2 : Int32)), (.ref u0), (.double d0), (.double fv28), (.double fv25)])) _
    refine XS.imul X0.here hx rfl (hb hby d2_50) rfl ?_
    show Steps p.tables e below (s₁.setTop (mkF m 51 #[.val (.ref u0), .val (.int (4 : Int32)), .val (.double fv25), .second, .val (.int (3 : Int32)), .val (.int (0 : Int32))] [(.int (6 : Int32)), (.ref u0), (.double d0), (.double fv28), (.double fv25)])) _
    refine XS.iconst X0.here hx rfl (hb hby d2_51) ?_
    show Steps p.tables e below (s₁.setTop (mkF m 52 #[.val (.ref u0), .val (.int (4 : Int32)), .val (.double fv25), .second, .val (.int (3 : Int32)), .val (.int (0 : Int32))] [(.int (1 : Int32)), (.int (6 : Int32)), (.ref u0), (.double d0), (.double fv28), (.double fv25)])) _
    refine XS.iadd X0.here hx rfl (hb hby d2_52) rfl ?_
    refine st30 _ ?_
    show Steps p.tables e below (s₁.setTop (mkF m 54 #[.val (.ref u0), .val (.int (4 : Int32)), .val (.double fv25), .second, .val (.int (3 : Int32)), .val (.int (0 : Int32))] [(.double d7), (.double d0), (.double fv28), (.double fv25)])) _
    refine XS.dmulS X0.here hx rfl (hb hby d2_54) rfl (v := fv31) (by rw [← fe31]; exact di31.nn) fe31.symm ?_
    refine XS.dsubS X0.here hx rfl (hb hby d2_55) rfl (v := fv32) (by rw [← fe32]; exact di32.nn) fe32.symm ?_
    refine XS.daddS X0.here hx rfl (hb hby d2_56) rfl (v := fv33) (by rw [← fe33]; exact di33.nn) fe33.symm ?_
    refine XS.dstoreN X0.here hx rfl (hb hby d2_57) rfl (l' := #[.val (.ref u0), .val (.int (4 : Int32)), .val (.double fv33), .second, .val (.int (3 : Int32)), .val (.int (0 : Int32))]) rfl ?_
    show Steps p.tables e below (s₁.setTop (mkF m 58 #[.val (.ref u0), .val (.int (4 : Int32)), .val (.double fv33), .second, .val (.int (3 : Int32)), .val (.int (0 : Int32))] [])) _
    refine XS.iinc X0.here hx rfl (hb hby d2_58) rfl (l' := #[.val (.ref u0), .val (.int (4 : Int32)), .val (.double fv33), .second, .val (.int (4 : Int32)), .val (.int (0 : Int32))]) rfl ?_
    show Steps p.tables e below (s₁.setTop (mkF m 61 #[.val (.ref u0), .val (.int (4 : Int32)), .val (.double fv33), .second, .val (.int (4 : Int32)), .val (.int (0 : Int32))] [])) _
    refine XS.goto X0.here hx rfl (pc0 := 61) (pc' := 10) rfl (hb hby d2_61) (by decide) (by decide) ?_
    refine XS.iload X0.here hx rfl (hb hby d2_10) rfl ?_
    refine XS.iloadN X0.here hx rfl (hb hby d2_12) rfl ?_
    refine XS.icmpYes X0.here hx rfl (pc0 := 13) (pc' := 64) rfl (hb hby d2_13) rfl (flt (by decide)).2.1 (by decide) (by decide) ?_
    refine XS.dloadN X0.here hx rfl (hb hby d2_64) rfl ?_
    refine XS.dconst0 X0.here hx rfl (hb hby d2_65) (v := 0) (by decide +kernel) ?_
    refine XS.dcmpS X0.here hx rfl (hb hby d2_66) rfl (v := cv34) ce34.symm ?_
    refine XS.ifYes X0.here hx rfl (pc0 := 67) (pc' := 72) rfl (hb hby d2_67) rfl ((if0 _ _).trans (tlt (by rw [ce34]; exact (DI.cmp di33).mpr hA)).1) (by decide) (by decide) ?_
    refine XS.aloadN X0.here hx rfl (hb hby d2_72) rfl rfl ?_
    refine st35 _ ?_
    refine st36 _ ?_
    show Steps p.tables e below (T36.setTop (mkF m 76 #[.val (.ref u0), .val (.int (4 : Int32)), .val (.double fv33), .second, .val (.int (4 : Int32)), .val (.int (0 : Int32))] [(.ref b36)])) _
    refine XS.astore X36.here hx rfl (hb hby d2_76) rfl rfl (l' := #[.val (.ref u0), .val (.int (4 : Int32)), .val (.double fv33), .second, .val (.ref b36), .val (.int (0 : Int32))]) rfl ?_
    refine XS.iconst X36.here hx rfl (hb hby d2_78) ?_
    refine XS.istore X36.here hx rfl (hb hby d2_79) rfl (l' := #[.val (.ref u0), .val (.int (4 : Int32)), .val (.double fv33), .second, .val (.ref b36), .val (.int (0 : Int32))]) rfl ?_
    refine XS.iload X36.here hx rfl (hb hby d2_81) rfl ?_
    refine XS.iloadN X36.here hx rfl (hb hby d2_83) rfl ?_
    refine XS.icmpNo X36.here hx rfl (hb hby d2_84) rfl (tlt (by decide)).2.1 ?_
    refine XS.aload X36.here hx rfl (hb hby d2_87) rfl rfl ?_
    refine XS.iconst X36.here hx rfl (hb hby d2_89) ?_
    refine XS.iload X36.here hx rfl (hb hby d2_90) rfl ?_
    show Steps p.tables e below (T36.setTop (mkF m 92 #[.val (.ref u0), .val (.int (4 : Int32)), .val (.double fv33), .second, .val (.ref b36), .val (.int (0 : Int32))] [(.int (0 : Int32)), (.int (2 : Int32)), (.ref b36)])) _
    refine XS.imul X36.here hx rfl (hb hby d2_92) rfl ?_
    show Steps p.tables e below (T36.setTop (mkF m 93 #[.val (.ref u0), .val (.int (4 : Int32)), .val (.double fv33), .second, .val (.ref b36), .val (.int (0 : Int32))] [(.int (0 : Int32)), (.ref b36)])) _
    refine XS.aloadN X36.here hx rfl (hb hby d2_93) rfl rfl ?_
    refine XS.iconst X36.here hx rfl (hb hby d2_94) ?_
    refine XS.iloadN X36.here hx rfl (hb hby d2_95) rfl ?_
    refine XS.iconst X36.here hx rfl (hb hby d2_96) ?_
    show Steps p.tables e below (T36.setTop (mkF m 97 #[.val (.ref u0), .val (.int (4 : Int32)), .val (.double fv33), .second, .val (.ref b36), .val (.int (0 : Int32))] [(.int (1 : Int32)), (.int (4 : Int32)), (.int (2 : Int32)), (.ref u0), (.int (0 : Int32)), (.ref b36)])) _
    refine XS.isub X36.here hx rfl (hb hby d2_97) rfl ?_
    show Steps p.tables e below (T36.setTop (mkF m 98 #[.val (.ref u0), .val (.int (4 : Int32)), .val (.double fv33), .second, .val (.ref b36), .val (.int (0 : Int32))] [(.int (3 : Int32)), (.int (2 : Int32)), (.ref u0), (.int (0 : Int32)), (.ref b36)])) _
    refine XS.iload X36.here hx rfl (hb hby d2_98) rfl ?_
    show Steps p.tables e below (T36.setTop (mkF m 100 #[.val (.ref u0), .val (.int (4 : Int32)), .val (.double fv33), .second, .val (.ref b36), .val (.int (0 : Int32))] [(.int (0 : Int32)), (.int (3 : Int32)), (.int (2 : Int32)), (.ref u0), (.int (0 : Int32)), (.ref b36)])) _
    refine XS.isub X36.here hx rfl (hb hby d2_100) rfl ?_
    show Steps p.tables e below (T36.setTop (mkF m 101 #[.val (.ref u0), .val (.int (4 : Int32)), .val (.double fv33), .second, .val (.ref b36), .val (.int (0 : Int32))] [(.int (3 : Int32)), (.int (2 : Int32)), (.ref u0), (.int (0 : Int32)), (.ref b36)])) _
    refine XS.imul X36.here hx rfl (hb hby d2_101) rfl ?_
    refine st37 _ ?_
    refine st39 _ ?_
    show Steps p.tables e below (T39.setTop (mkF m 104 #[.val (.ref u0), .val (.int (4 : Int32)), .val (.double fv33), .second, .val (.ref b36), .val (.int (0 : Int32))] [])) _
    refine XS.aload X39.here hx rfl (hb hby d2_104) rfl rfl ?_
    refine XS.iconst X39.here hx rfl (hb hby d2_106) ?_
    refine XS.iload X39.here hx rfl (hb hby d2_107) rfl ?_
    show Steps p.tables e below (T39.setTop (mkF m 109 #[.val (.ref u0), .val (.int (4 : Int32)), .val (.double fv33), .second, .val (.ref b36), .val (.int (0 : Int32))] [(.int (0 : Int32)), (.int (2 : Int32)), (.ref b36)])) _
    refine XS.imul X39.here hx rfl (hb hby d2_109) rfl ?_
    show Steps p.tables e below (T39.setTop (mkF m 110 #[.val (.ref u0), .val (.int (4 : Int32)), .val (.double fv33), .second, .val (.ref b36), .val (.int (0 : Int32))] [(.int (0 : Int32)), (.ref b36)])) _
    refine XS.iconst X39.here hx rfl (hb hby d2_110) ?_
    show Steps p.tables e below (T39.setTop (mkF m 111 #[.val (.ref u0), .val (.int (4 : Int32)), .val (.double fv33), .second, .val (.ref b36), .val (.int (0 : Int32))] [(.int (1 : Int32)), (.int (0 : Int32)), (.ref b36)])) _
    refine XS.iadd X39.here hx rfl (hb hby d2_111) rfl ?_
    show Steps p.tables e below (T39.setTop (mkF m 112 #[.val (.ref u0), .val (.int (4 : Int32)), .val (.double fv33), .second, .val (.ref b36), .val (.int (0 : Int32))] [(.int (1 : Int32)), (.ref b36)])) _
    refine XS.aloadN X39.here hx rfl (hb hby d2_112) rfl rfl ?_
    refine XS.iconst X39.here hx rfl (hb hby d2_113) ?_
    refine XS.iloadN X39.here hx rfl (hb hby d2_114) rfl ?_
    refine XS.iconst X39.here hx rfl (hb hby d2_115) ?_
    show Steps p.tables e below (T39.setTop (mkF m 116 #[.val (.ref u0), .val (.int (4 : Int32)), .val (.double fv33), .second, .val (.ref b36), .val (.int (0 : Int32))] [(.int (1 : Int32)), (.int (4 : Int32)), (.int (2 : Int32)), (.ref u0), (.int (1 : Int32)), (.ref b36)])) _
    refine XS.isub X39.here hx rfl (hb hby d2_116) rfl ?_
    show Steps p.tables e below (T39.setTop (mkF m 117 #[.val (.ref u0), .val (.int (4 : Int32)), .val (.double fv33), .second, .val (.ref b36), .val (.int (0 : Int32))] [(.int (3 : Int32)), (.int (2 : Int32)), (.ref u0), (.int (1 : Int32)), (.ref b36)])) _
    refine XS.iload X39.here hx rfl (hb hby d2_117) rfl ?_
    show Steps p.tables e below (T39.setTop (mkF m 119 #[.val (.ref u0), .val (.int (4 : Int32)), .val (.double fv33), .second, .val (.ref b36), .val (.int (0 : Int32))] [(.int (0 : Int32)), (.int (3 : Int32)), (.int (2 : Int32)), (.ref u0), (.int (1 : Int32)), (.ref b36)])) _
    refine XS.isub X39.here hx rfl (hb hby d2_119) rfl ?_
    show Steps p.tables e below (T39.setTop (mkF m 120 #[.val (.ref u0), .val (.int (4 : Int32)), .val (.double fv33), .second, .val (.ref b36), .val (.int (0 : Int32))] [(.int (3 : Int32)), (.int (2 : Int32)), (.ref u0), (.int (1 : Int32)), (.ref b36)])) _
    refine XS.imul X39.here hx rfl (hb hby d2_120) rfl ?_
    show Steps p.tables e below (T39.setTop (mkF m 121 #[.val (.ref u0), .val (.int (4 : Int32)), .val (.double fv33), .second, .val (.ref b36), .val (.int (0 : Int32))] [(.int (6 : Int32)), (.ref u0), (.int (1 : Int32)), (.ref b36)])) _
    refine XS.iconst X39.here hx rfl (hb hby d2_121) ?_
    show Steps p.tables e below (T39.setTop (mkF m 122 #[.val (.ref u0), .val (.int (4 : Int32)), .val (.double fv33), .second, .val (.ref b36), .val (.int (0 : Int32))] [(.int (1 : Int32)), (.int (6 : Int32)), (.ref u0), (.int (1 : Int32)), (.ref b36)])) _
    refine XS.iadd X39.here hx rfl (hb hby d2_122) rfl ?_
    refine st40 _ ?_
    refine st42 _ ?_
    show Steps p.tables e below (T42.setTop (mkF m 125 #[.val (.ref u0), .val (.int (4 : Int32)), .val (.double fv33), .second, .val (.ref b36), .val (.int (0 : Int32))] [])) _
    refine XS.iinc X42.here hx rfl (hb hby d2_125) rfl (l' := #[.val (.ref u0), .val (.int (4 : Int32)), .val (.double fv33), .second, .val (.ref b36), .val (.int (1 : Int32))]) rfl ?_
    show Steps p.tables e below (T42.setTop (mkF m 128 #[.val (.ref u0), .val (.int (4 : Int32)), .val (.double fv33), .second, .val (.ref b36), .val (.int (1 : Int32))] [])) _
    refine XS.goto X42.here hx rfl (pc0 := 128) (pc' := 81) rfl (hb hby d2_128) (by decide) (by decide) ?_
    refine XS.iload X42.here hx rfl (hb hby d2_81) rfl ?_
    refine XS.iloadN X42.here hx rfl (hb hby d2_83) rfl ?_
    refine XS.icmpNo X42.here hx rfl (hb hby d2_84) rfl (tlt (by decide)).2.1 ?_
    refine XS.aload X42.here hx rfl (hb hby d2_87) rfl rfl ?_
    refine XS.iconst X42.here hx rfl (hb hby d2_89) ?_
    refine XS.iload X42.here hx rfl (hb hby d2_90) rfl ?_
    show Steps p.tables e below (T42.setTop (mkF m 92 #[.val (.ref u0), .val (.int (4 : Int32)), .val (.double fv33), .second, .val (.ref b36), .val (.int (1 : Int32))] [(.int (1 : Int32)), (.int (2 : Int32)), (.ref b36)])) _
    refine XS.imul X42.here hx rfl (hb hby d2_92) rfl ?_
    show Steps p.tables e below (T42.setTop (mkF m 93 #[.val (.ref u0), .val (.int (4 : Int32)), .val (.double fv33), .second, .val (.ref b36), .val (.int (1 : Int32))] [(.int (2 : Int32)), (.ref b36)])) _
    refine XS.aloadN X42.here hx rfl (hb hby d2_93) rfl rfl ?_
    refine XS.iconst X42.here hx rfl (hb hby d2_94) ?_
    refine XS.iloadN X42.here hx rfl (hb hby d2_95) rfl ?_
    refine XS.iconst X42.here hx rfl (hb hby d2_96) ?_
    show Steps p.tables e below (T42.setTop (mkF m 97 #[.val (.ref u0), .val (.int (4 : Int32)), .val (.double fv33), .second, .val (.ref b36), .val (.int (1 : Int32))] [(.int (1 : Int32)), (.int (4 : Int32)), (.int (2 : Int32)), (.ref u0), (.int (2 : Int32)), (.ref b36)])) _
    refine XS.isub X42.here hx rfl (hb hby d2_97) rfl ?_
    show Steps p.tables e below (T42.setTop (mkF m 98 #[.val (.ref u0), .val (.int (4 : Int32)), .val (.double fv33), .second, .val (.ref b36), .val (.int (1 : Int32))] [(.int (3 : Int32)), (.int (2 : Int32)), (.ref u0), (.int (2 : Int32)), (.ref b36)])) _
    refine XS.iload X42.here hx rfl (hb hby d2_98) rfl ?_
    show Steps p.tables e below (T42.setTop (mkF m 100 #[.val (.ref u0), .val (.int (4 : Int32)), .val (.double fv33), .second, .val (.ref b36), .val (.int (1 : Int32))] [(.int (1 : Int32)), (.int (3 : Int32)), (.int (2 : Int32)), (.ref u0), (.int (2 : Int32)), (.ref b36)])) _
    refine XS.isub X42.here hx rfl (hb hby d2_100) rfl ?_
    show Steps p.tables e below (T42.setTop (mkF m 101 #[.val (.ref u0), .val (.int (4 : Int32)), .val (.double fv33), .second, .val (.ref b36), .val (.int (1 : Int32))] [(.int (2 : Int32)), (.int (2 : Int32)), (.ref u0), (.int (2 : Int32)), (.ref b36)])) _
    refine XS.imul X42.here hx rfl (hb hby d2_101) rfl ?_
    refine st43 _ ?_
    refine st45 _ ?_
    show Steps p.tables e below (T45.setTop (mkF m 104 #[.val (.ref u0), .val (.int (4 : Int32)), .val (.double fv33), .second, .val (.ref b36), .val (.int (1 : Int32))] [])) _
    refine XS.aload X45.here hx rfl (hb hby d2_104) rfl rfl ?_
    refine XS.iconst X45.here hx rfl (hb hby d2_106) ?_
    refine XS.iload X45.here hx rfl (hb hby d2_107) rfl ?_
    show Steps p.tables e below (T45.setTop (mkF m 109 #[.val (.ref u0), .val (.int (4 : Int32)), .val (.double fv33), .second, .val (.ref b36), .val (.int (1 : Int32))] [(.int (1 : Int32)), (.int (2 : Int32)), (.ref b36)])) _
    refine XS.imul X45.here hx rfl (hb hby d2_109) rfl ?_
    show Steps p.tables e below (T45.setTop (mkF m 110 #[.val (.ref u0), .val (.int (4 : Int32)), .val (.double fv33), .second, .val (.ref b36), .val (.int (1 : Int32))] [(.int (2 : Int32)), (.ref b36)])) _
    refine XS.iconst X45.here hx rfl (hb hby d2_110) ?_
    show Steps p.tables e below (T45.setTop (mkF m 111 #[.val (.ref u0), .val (.int (4 : Int32)), .val (.double fv33), .second, .val (.ref b36), .val (.int (1 : Int32))] [(.int (1 : Int32)), (.int (2 : Int32)), (.ref b36)])) _
    refine XS.iadd X45.here hx rfl (hb hby d2_111) rfl ?_
    show Steps p.tables e below (T45.setTop (mkF m 112 #[.val (.ref u0), .val (.int (4 : Int32)), .val (.double fv33), .second, .val (.ref b36), .val (.int (1 : Int32))] [(.int (3 : Int32)), (.ref b36)])) _
    refine XS.aloadN X45.here hx rfl (hb hby d2_112) rfl rfl ?_
    refine XS.iconst X45.here hx rfl (hb hby d2_113) ?_
    refine XS.iloadN X45.here hx rfl (hb hby d2_114) rfl ?_
    refine XS.iconst X45.here hx rfl (hb hby d2_115) ?_
    show Steps p.tables e below (T45.setTop (mkF m 116 #[.val (.ref u0), .val (.int (4 : Int32)), .val (.double fv33), .second, .val (.ref b36), .val (.int (1 : Int32))] [(.int (1 : Int32)), (.int (4 : Int32)), (.int (2 : Int32)), (.ref u0), (.int (3 : Int32)), (.ref b36)])) _
    refine XS.isub X45.here hx rfl (hb hby d2_116) rfl ?_
    show Steps p.tables e below (T45.setTop (mkF m 117 #[.val (.ref u0), .val (.int (4 : Int32)), .val (.double fv33), .second, .val (.ref b36), .val (.int (1 : Int32))] [(.int (3 : Int32)), (.int (2 : Int32)), (.ref u0), (.int (3 : Int32)), (.ref b36)])) _
    refine XS.iload X45.here hx rfl (hb hby d2_117) rfl ?_
    show Steps p.tables e below (T45.setTop (mkF m 119 #[.val (.ref u0), .val (.int (4 : Int32)), .val (.double fv33), .second, .val (.ref b36), .val (.int (1 : Int32))] [(.int (1 : Int32)), (.int (3 : Int32)), (.int (2 : Int32)), (.ref u0), (.int (3 : Int32)), (.ref b36)])) _
    refine XS.isub X45.here hx rfl (hb hby d2_119) rfl ?_
    show Steps p.tables e below (T45.setTop (mkF m 120 #[.val (.ref u0), .val (.int (4 : Int32)), .val (.double fv33), .second, .val (.ref b36), .val (.int (1 : Int32))] [(.int (2 : Int32)), (.int (2 : Int32)), (.ref u0), (.int (3 : Int32)), (.ref b36)])) _
    refine XS.imul X45.here hx rfl (hb hby d2_120) rfl ?_
    show Steps p.tables e below (T45.setTop (mkF m 121 #[.val (.ref u0), .val (.int (4 : Int32)), .val (.double fv33), .second, .val (.ref b36), .val (.int (1 : Int32))] [(.int (4 : Int32)), (.ref u0), (.int (3 : Int32)), (.ref b36)])) _
    refine XS.iconst X45.here hx rfl (hb hby d2_121) ?_
    show Steps p.tables e below (T45.setTop (mkF m 122 #[.val (.ref u0), .val (.int (4 : Int32)), .val (.double fv33), .second, .val (.ref b36), .val (.int (1 : Int32))] [(.int (1 : Int32)), (.int (4 : Int32)), (.ref u0), (.int (3 : Int32)), (.ref b36)])) _
    refine XS.iadd X45.here hx rfl (hb hby d2_122) rfl ?_
    refine st46 _ ?_
    refine st48 _ ?_
    show Steps p.tables e below (T48.setTop (mkF m 125 #[.val (.ref u0), .val (.int (4 : Int32)), .val (.double fv33), .second, .val (.ref b36), .val (.int (1 : Int32))] [])) _
    refine XS.iinc X48.here hx rfl (hb hby d2_125) rfl (l' := #[.val (.ref u0), .val (.int (4 : Int32)), .val (.double fv33), .second, .val (.ref b36), .val (.int (2 : Int32))]) rfl ?_
    show Steps p.tables e below (T48.setTop (mkF m 128 #[.val (.ref u0), .val (.int (4 : Int32)), .val (.double fv33), .second, .val (.ref b36), .val (.int (2 : Int32))] [])) _
    refine XS.goto X48.here hx rfl (pc0 := 128) (pc' := 81) rfl (hb hby d2_128) (by decide) (by decide) ?_
    refine XS.iload X48.here hx rfl (hb hby d2_81) rfl ?_
    refine XS.iloadN X48.here hx rfl (hb hby d2_83) rfl ?_
    refine XS.icmpNo X48.here hx rfl (hb hby d2_84) rfl (tlt (by decide)).2.1 ?_
    refine XS.aload X48.here hx rfl (hb hby d2_87) rfl rfl ?_
    refine XS.iconst X48.here hx rfl (hb hby d2_89) ?_
    refine XS.iload X48.here hx rfl (hb hby d2_90) rfl ?_
    show Steps p.tables e below (T48.setTop (mkF m 92 #[.val (.ref u0), .val (.int (4 : Int32)), .val (.double fv33), .second, .val (.ref b36), .val (.int (2 : Int32))] [(.int (2 : Int32)), (.int (2 : Int32)), (.ref b36)])) _
    refine XS.imul X48.here hx rfl (hb hby d2_92) rfl ?_
    show Steps p.tables e below (T48.setTop (mkF m 93 #[.val (.ref u0), .val (.int (4 : Int32)), .val (.double fv33), .second, .val (.ref b36), .val (.int (2 : Int32))] [(.int (4 : Int32)), (.ref b36)])) _
    refine XS.aloadN X48.here hx rfl (hb hby d2_93) rfl rfl ?_
    refine XS.iconst X48.here hx rfl (hb hby d2_94) ?_
    refine XS.iloadN X48.here hx rfl (hb hby d2_95) rfl ?_
    refine XS.iconst X48.here hx rfl (hb hby d2_96) ?_
    show Steps p.tables e below (T48.setTop (mkF m 97 #[.val (.ref u0), .val (.int (4 : Int32)), .val (.double fv33), .second, .val (.ref b36), .val (.int (2 : Int32))] [(.int (1 : Int32)), (.int (4 : Int32)), (.int (2 : Int32)), (.ref u0), (.int (4 : Int32)), (.ref b36)])) _
    refine XS.isub X48.here hx rfl (hb hby d2_97) rfl ?_
    show Steps p.tables e below (T48.setTop (mkF m 98 #[.val (.ref u0), .val (.int (4 : Int32)), .val (.double fv33), .second, .val (.ref b36), .val (.int (2 : Int32))] [(.int (3 : Int32)), (.int (2 : Int32)), (.ref u0), (.int (4 : Int32)), (.ref b36)])) _
    refine XS.iload X48.here hx rfl (hb hby d2_98) rfl ?_
    show Steps p.tables e below (T48.setTop (mkF m 100 #[.val (.ref u0), .val (.int (4 : Int32)), .val (.double fv33), .second, .val (.ref b36), .val (.int (2 : Int32))] [(.int (2 : Int32)), (.int (3 : Int32)), (.int (2 : Int32)), (.ref u0), (.int (4 : Int32)), (.ref b36)])) _
    refine XS.isub X48.here hx rfl (hb hby d2_100) rfl ?_
    show Steps p.tables e below (T48.setTop (mkF m 101 #[.val (.ref u0), .val (.int (4 : Int32)), .val (.double fv33), .second, .val (.ref b36), .val (.int (2 : Int32))] [(.int (1 : Int32)), (.int (2 : Int32)), (.ref u0), (.int (4 : Int32)), (.ref b36)])) _
    refine XS.imul X48.here hx rfl (hb hby d2_101) rfl ?_
    refine st49 _ ?_
    refine st51 _ ?_
    show Steps p.tables e below (T51.setTop (mkF m 104 #[.val (.ref u0), .val (.int (4 : Int32)), .val (.double fv33), .second, .val (.ref b36), .val (.int (2 : Int32))] [])) _
    refine XS.aload X51.here hx rfl (hb hby d2_104) rfl rfl ?_
    refine XS.iconst X51.here hx rfl (hb hby d2_106) ?_
    refine XS.iload X51.here hx rfl (hb hby d2_107) rfl ?_
    show Steps p.tables e below (T51.setTop (mkF m 109 #[.val (.ref u0), .val (.int (4 : Int32)), .val (.double fv33), .second, .val (.ref b36), .val (.int (2 : Int32))] [(.int (2 : Int32)), (.int (2 : Int32)), (.ref b36)])) _
    refine XS.imul X51.here hx rfl (hb hby d2_109) rfl ?_
    show Steps p.tables e below (T51.setTop (mkF m 110 #[.val (.ref u0), .val (.int (4 : Int32)), .val (.double fv33), .second, .val (.ref b36), .val (.int (2 : Int32))] [(.int (4 : Int32)), (.ref b36)])) _
    refine XS.iconst X51.here hx rfl (hb hby d2_110) ?_
    show Steps p.tables e below (T51.setTop (mkF m 111 #[.val (.ref u0), .val (.int (4 : Int32)), .val (.double fv33), .second, .val (.ref b36), .val (.int (2 : Int32))] [(.int (1 : Int32)), (.int (4 : Int32)), (.ref b36)])) _
    refine XS.iadd X51.here hx rfl (hb hby d2_111) rfl ?_
    show Steps p.tables e below (T51.setTop (mkF m 112 #[.val (.ref u0), .val (.int (4 : Int32)), .val (.double fv33), .second, .val (.ref b36), .val (.int (2 : Int32))] [(.int (5 : Int32)), (.ref b36)])) _
    refine XS.aloadN X51.here hx rfl (hb hby d2_112) rfl rfl ?_
    refine XS.iconst X51.here hx rfl (hb hby d2_113) ?_
    refine XS.iloadN X51.here hx rfl (hb hby d2_114) rfl ?_
    refine XS.iconst X51.here hx rfl (hb hby d2_115) ?_
    show Steps p.tables e below (T51.setTop (mkF m 116 #[.val (.ref u0), .val (.int (4 : Int32)), .val (.double fv33), .second, .val (.ref b36), .val (.int (2 : Int32))] [(.int (1 : Int32)), (.int (4 : Int32)), (.int (2 : Int32)), (.ref u0), (.int (5 : Int32)), (.ref b36)])) _
    refine XS.isub X51.here hx rfl (hb hby d2_116) rfl ?_
    show Steps p.tables e below (T51.setTop (mkF m 117 #[.val (.ref u0), .val (.int (4 : Int32)), .val (.double fv33), .second, .val (.ref b36), .val (.int (2 : Int32))] [(.int (3 : Int32)), (.int (2 : Int32)), (.ref u0), (.int (5 : Int32)), (.ref b36)])) _
    refine XS.iload X51.here hx rfl (hb hby d2_117) rfl ?_
    show Steps p.tables e below (T51.setTop (mkF m 119 #[.val (.ref u0), .val (.int (4 : Int32)), .val (.double fv33), .second, .val (.ref b36), .val (.int (2 : Int32))] [(.int (2 : Int32)), (.int (3 : Int32)), (.int (2 : Int32)), (.ref u0), (.int (5 : Int32)), (.ref b36)])) _
    refine XS.isub X51.here hx rfl (hb hby d2_119) rfl ?_
    show Steps p.tables e below (T51.setTop (mkF m 120 #[.val (.ref u0), .val (.int (4 : Int32)), .val (.double fv33), .second, .val (.ref b36), .val (.int (2 : Int32))] [(.int (1 : Int32)), (.int (2 : Int32)), (.ref u0), (.int (5 : Int32)), (.ref b36)])) _
    refine XS.imul X51.here hx rfl (hb hby d2_120) rfl ?_
    show Steps p.tables e below (T51.setTop (mkF m 121 #[.val (.ref u0), .val (.int (4 : Int32)), .val (.double fv33), .second, .val (.ref b36), .val (.int (2 : Int32))] [(.int (2 : Int32)), (.ref u0), (.int (5 : Int32)), (.ref b36)])) _
    refine XS.iconst X51.here hx rfl (hb hby d2_121) ?_
    show Steps p.tables e below (T51.setTop (mkF m 122 #[.val (.ref u0), .val (.int (4 : Int32)), .val (.double fv33), .second, .val (.ref b36), .val (.int (2 : Int32))] [(.int (1 : Int32)), (.int (2 : Int32)), (.ref u0), (.int (5 : Int32)), (.ref b36)])) _
    refine XS.iadd X51.here hx rfl (hb hby d2_122) rfl ?_
    refine st52 _ ?_
    refine st54 _ ?_
    show Steps p.tables e below (T54.setTop (mkF m 125 #[.val (.ref u0), .val (.int (4 : Int32)), .val (.double fv33), .second, .val (.ref b36), .val (.int (2 : Int32))] [])) _
    refine XS.iinc X54.here hx rfl (hb hby d2_125) rfl (l' := #[.val (.ref u0), .val (.int (4 : Int32)), .val (.double fv33), .second, .val (.ref b36), .val (.int (3 : Int32))]) rfl ?_
    show Steps p.tables e below (T54.setTop (mkF m 128 #[.val (.ref u0), .val (.int (4 : Int32)), .val (.double fv33), .second, .val (.ref b36), .val (.int (3 : Int32))] [])) _
    refine XS.goto X54.here hx rfl (pc0 := 128) (pc' := 81) rfl (hb hby d2_128) (by decide) (by decide) ?_
    refine XS.iload X54.here hx rfl (hb hby d2_81) rfl ?_
    refine XS.iloadN X54.here hx rfl (hb hby d2_83) rfl ?_
    refine XS.icmpNo X54.here hx rfl (hb hby d2_84) rfl (tlt (by decide)).2.1 ?_
    refine XS.aload X54.here hx rfl (hb hby d2_87) rfl rfl ?_
    refine XS.iconst X54.here hx rfl (hb hby d2_89) ?_
    refine XS.iload X54.here hx rfl (hb hby d2_90) rfl ?_
    show Steps p.tables e below (T54.setTop (mkF m 92 #[.val (.ref u0), .val (.int (4 : Int32)), .val (.double fv33), .second, .val (.ref b36), .val (.int (3 : Int32))] [(.int (3 : Int32)), (.int (2 : Int32)), (.ref b36)])) _
    refine XS.imul X54.here hx rfl (hb hby d2_92) rfl ?_
    show Steps p.tables e below (T54.setTop (mkF m 93 #[.val (.ref u0), .val (.int (4 : Int32)), .val (.double fv33), .second, .val (.ref b36), .val (.int (3 : Int32))] [(.int (6 : Int32)), (.ref b36)])) _
    refine XS.aloadN X54.here hx rfl (hb hby d2_93) rfl rfl ?_
    refine XS.iconst X54.here hx rfl (hb hby d2_94) ?_
    refine XS.iloadN X54.here hx rfl (hb hby d2_95) rfl ?_
    refine XS.iconst X54.here hx rfl (hb hby d2_96) ?_
    show Steps p.tables e below (T54.setTop (mkF m 97 #[.val (.ref u0), .val (.int (4 : Int32)), .val (.double fv33), .second, .val (.ref b36), .val (.int (3 : Int32))] [(.int (1 : Int32)), (.int (4 : Int32)), (.int (2 : Int32)), (.ref u0), (.int (6 : Int32)), (.ref b36)])) _
    refine XS.isub X54.here hx rfl (hb hby d2_97) rfl ?_
    show Steps p.tables e below (T54.setTop (mkF m 98 #[.val (.ref u0), .val (.int (4 : Int32)), .val (.double fv33), .second, .val (.ref b36), .val (.int (3 : Int32))] [(.int (3 : Int32)), (.int (2 : Int32)), (.ref u0), (.int (6 : Int32)), (.ref b36)])) _
    refine XS.iload X54.here hx rfl (hb hby d2_98) rfl ?_
    show Steps p.tables e below (T54.setTop (mkF m 100 #[.val (.ref u0), .val (.int (4 : Int32)), .val (.double fv33), .second, .val (.ref b36), .val (.int (3 : Int32))] [(.int (3 : Int32)), (.int (3 : Int32)), (.int (2 : Int32)), (.ref u0), (.int (6 : Int32)), (.ref b36)])) _
    refine XS.isub X54.here hx rfl (hb hby d2_100) rfl ?_
    show Steps p.tables e below (T54.setTop (mkF m 101 #[.val (.ref u0), .val (.int (4 : Int32)), .val (.double fv33), .second, .val (.ref b36), .val (.int (3 : Int32))] [(.int (0 : Int32)), (.int (2 : Int32)), (.ref u0), (.int (6 : Int32)), (.ref b36)])) _
    refine XS.imul X54.here hx rfl (hb hby d2_101) rfl ?_
    refine st55 _ ?_
    refine st57 _ ?_
    show Steps p.tables e below (T57.setTop (mkF m 104 #[.val (.ref u0), .val (.int (4 : Int32)), .val (.double fv33), .second, .val (.ref b36), .val (.int (3 : Int32))] [])) _
    refine XS.aload X57.here hx rfl (hb hby d2_104) rfl rfl ?_
    refine XS.iconst X57.here hx rfl (hb hby d2_106) ?_
    refine XS.iload X57.here hx rfl (hb hby d2_107) rfl ?_
    show Steps p.tables e below (T57.setTop (mkF m 109 #[.val (.ref u0), .val (.int (4 : Int32)), .val (.double fv33), .second, .val (.ref b36), .val (.int (3 : Int32))] [(.int (3 : Int32)), (.int (2 : Int32)), (.ref b36)])) _
    refine XS.imul X57.here hx rfl (hb hby d2_109) rfl ?_
    show Steps p.tables e below (T57.setTop (mkF m 110 #[.val (.ref u0), .val (.int (4 : Int32)), .val (.double fv33), .second, .val (.ref b36), .val (.int (3 : Int32))] [(.int (6 : Int32)), (.ref b36)])) _
    refine XS.iconst X57.here hx rfl (hb hby d2_110) ?_
    show Steps p.tables e below (T57.setTop (mkF m 111 #[.val (.ref u0), .val (.int (4 : Int32)), .val (.double fv33), .second, .val (.ref b36), .val (.int (3 : Int32))] [(.int (1 : Int32)), (.int (6 : Int32)), (.ref b36)])) _
    refine XS.iadd X57.here hx rfl (hb hby d2_111) rfl ?_
    show Steps p.tables e below (T57.setTop (mkF m 112 #[.val (.ref u0), .val (.int (4 : Int32)), .val (.double fv33), .second, .val (.ref b36), .val (.int (3 : Int32))] [(.int (7 : Int32)), (.ref b36)])) _
    refine XS.aloadN X57.here hx rfl (hb hby d2_112) rfl rfl ?_
    refine XS.iconst X57.here hx rfl (hb hby d2_113) ?_
    refine XS.iloadN X57.here hx rfl (hb hby d2_114) rfl ?_
    refine XS.iconst X57.here hx rfl (hb hby d2_115) ?_
    show Steps p.tables e below (T57.setTop (mkF m 116 #[.val (.ref u0), .val (.int (4 : Int32)), .val (.double fv33), .second, .val (.ref b36), .val (.int (3 : Int32))] [(.int (1 : Int32)), (.int (4 : Int32)), (.int (2 : Int32)), (.ref u0), (.int (7 : Int32)), (.ref b36)])) _
    refine XS.isub X57.here hx rfl (hb hby d2_116) rfl ?_
    show Steps p.tables e below (T57.setTop (mkF m 117 #[.val (.ref u0), .val (.int (4 : Int32)), .val (.double fv33), .second, .val (.ref b36), .val (.int (3 : Int32))] [(.int (3 : Int32)), (.int (2 : Int32)), (.ref u0), (.int (7 : Int32)), (.ref b36)])) _
    refine XS.iload X57.here hx rfl (hb hby d2_117) rfl ?_
    show Steps p.tables e below (T57.setTop (mkF m 119 #[.val (.ref u0), .val (.int (4 : Int32)), .val (.double fv33), .second, .val (.ref b36), .val (.int (3 : Int32))] [(.int (3 : Int32)), (.int (3 : Int32)), (.int (2 : Int32)), (.ref u0), (.int (7 : Int32)), (.ref b36)])) _
    refine XS.isub X57.here hx rfl (hb hby d2_119) rfl ?_
    show Steps p.tables e below (T57.setTop (mkF m 120 #[.val (.ref u0), .val (.int (4 : Int32)), .val (.double fv33), .second, .val (.ref b36), .val (.int (3 : Int32))] [(.int (0 : Int32)), (.int (2 : Int32)), (.ref u0), (.int (7 : Int32)), (.ref b36)])) _
    refine XS.imul X57.here hx rfl (hb hby d2_120) rfl ?_
    show Steps p.tables e below (T57.setTop (mkF m 121 #[.val (.ref u0), .val (.int (4 : Int32)), .val (.double fv33), .second, .val (.ref b36), .val (.int (3 : Int32))] [(.int (0 : Int32)), (.ref u0), (.int (7 : Int32)), (.ref b36)])) _
    refine XS.iconst X57.here hx rfl (hb hby d2_121) ?_
    show Steps p.tables e below (T57.setTop (mkF m 122 #[.val (.ref u0), .val (.int (4 : Int32)), .val (.double fv33), .second, .val (.ref b36), .val (.int (3 : Int32))] [(.int (1 : Int32)), (.int (0 : Int32)), (.ref u0), (.int (7 : Int32)), (.ref b36)])) _
    refine XS.iadd X57.here hx rfl (hb hby d2_122) rfl ?_
    refine st58 _ ?_
    refine st60 _ ?_
    show Steps p.tables e below (T60.setTop (mkF m 125 #[.val (.ref u0), .val (.int (4 : Int32)), .val (.double fv33), .second, .val (.ref b36), .val (.int (3 : Int32))] [])) _
    refine XS.iinc X60.here hx rfl (hb hby d2_125) rfl (l' := #[.val (.ref u0), .val (.int (4 : Int32)), .val (.double fv33), .second, .val (.ref b36), .val (.int (4 : Int32))]) rfl ?_
    show Steps p.tables e below (T60.setTop (mkF m 128 #[.val (.ref u0), .val (.int (4 : Int32)), .val (.double fv33), .second, .val (.ref b36), .val (.int (4 : Int32))] [])) _
    refine XS.goto X60.here hx rfl (pc0 := 128) (pc' := 81) rfl (hb hby d2_128) (by decide) (by decide) ?_
    refine XS.iload X60.here hx rfl (hb hby d2_81) rfl ?_
    refine XS.iloadN X60.here hx rfl (hb hby d2_83) rfl ?_
    refine XS.icmpYes X60.here hx rfl (pc0 := 84) (pc' := 131) rfl (hb hby d2_84) rfl (flt (by decide)).2.1 (by decide) (by decide) ?_
    refine XS.aload X60.here hx rfl (hb hby d2_131) rfl rfl ?_
    show Steps p.tables e below (T60.setTop (mkF m 133 #[.val (.ref u0), .val (.int (4 : Int32)), .val (.double fv33), .second, .val (.ref b36), .val (.int (4 : Int32))] [(.ref b36)])) _
    jvm_step X60.here [X60.here.top, hx, (hb hby d2_133), X60.method', Bd.returns, Value.isRef, FieldType.isReference]
    first | (intro acts; rw [hr _ acts rfl rfl rfl]) | rw [hr _ _ rfl rfl rfl]
    exact Steps.refl _
  · show QC4n Z u0 k_u0 d0 d1 d2 d3 d4 d5 d6 d7 x0 x1 x2 x3 x4 x5 x6 x7 h0 n0 _ T60.heap _
    rw [e60]
    exact ⟨(by rw [g36]), N60, KK60, _, (by rw [← g36]; exact V60)⟩
theorem d3_0 : decode method_4_code 0 = .ok (.aload_n 0, 1) := by decide +kernel
theorem d3_1 : decode method_4_code 1 = .ok (.ifnull 21, 3) := by decide +kernel
theorem d3_4 : decode method_4_code 4 = .ok (.aload_n 1, 1) := by decide +kernel
theorem d3_5 : decode method_4_code 5 = .ok (.ifnull 17, 3) := by decide +kernel
theorem d3_8 : decode method_4_code 8 = .ok (.aload_n 0, 1) := by decide +kernel
theorem d3_9 : decode method_4_code 9 = .ok (.arraylength, 1) := by decide +kernel
theorem d3_10 : decode method_4_code 10 = .ok (.aload_n 1, 1) := by decide +kernel
theorem d3_11 : decode method_4_code 11 = .ok (.arraylength, 1) := by decide +kernel
theorem d3_12 : decode method_4_code 12 = .ok (.if_icmp .ne 10, 3) := by decide +kernel
theorem d3_15 : decode method_4_code 15 = .ok (.aload_n 0, 1) := by decide +kernel
theorem d3_16 : decode method_4_code 16 = .ok (.arraylength, 1) := by decide +kernel
theorem d3_17 : decode method_4_code 17 = .ok (.bipush 8, 2) := by decide +kernel
theorem d3_19 : decode method_4_code 19 = .ok (.if_icmp .le 5, 3) := by decide +kernel
theorem d3_24 : decode method_4_code 24 = .ok (.aload_n 0, 1) := by decide +kernel
theorem d3_25 : decode method_4_code 25 = .ok (.arraylength, 1) := by decide +kernel
theorem d3_26 : decode method_4_code 26 = .ok (.istore_n 2, 1) := by decide +kernel
theorem d3_27 : decode method_4_code 27 = .ok (.iload_n 2, 1) := by decide +kernel
theorem d3_28 : decode method_4_code 28 = .ok (.iconst 1, 1) := by decide +kernel
theorem d3_29 : decode method_4_code 29 = .ok (.if_icmp .lt 13, 3) := by decide +kernel
theorem d3_42 : decode method_4_code 42 = .ok (.iload_n 2, 1) := by decide +kernel
theorem d3_43 : decode method_4_code 43 = .ok (.iconst 2, 1) := by decide +kernel
theorem d3_44 : decode method_4_code 44 = .ok (.if_icmp .lt 13, 3) := by decide +kernel
theorem d3_57 : decode method_4_code 57 = .ok (.iload_n 2, 1) := by decide +kernel
theorem d3_58 : decode method_4_code 58 = .ok (.iconst 3, 1) := by decide +kernel
theorem d3_59 : decode method_4_code 59 = .ok (.if_icmp .lt 13, 3) := by decide +kernel
theorem d3_72 : decode method_4_code 72 = .ok (.iload_n 2, 1) := by decide +kernel
theorem d3_73 : decode method_4_code 73 = .ok (.iconst 4, 1) := by decide +kernel
theorem d3_74 : decode method_4_code 74 = .ok (.if_icmp .lt 13, 3) := by decide +kernel
theorem d3_87 : decode method_4_code 87 = .ok (.iload_n 2, 1) := by decide +kernel
theorem d3_88 : decode method_4_code 88 = .ok (.iconst 5, 1) := by decide +kernel
theorem d3_89 : decode method_4_code 89 = .ok (.if_icmp .lt 13, 3) := by decide +kernel
theorem d3_102 : decode method_4_code 102 = .ok (.iload_n 2, 1) := by decide +kernel
theorem d3_103 : decode method_4_code 103 = .ok (.bipush 6, 2) := by decide +kernel
theorem d3_105 : decode method_4_code 105 = .ok (.if_icmp .lt 13, 3) := by decide +kernel
theorem d3_118 : decode method_4_code 118 = .ok (.iload_n 2, 1) := by decide +kernel
theorem d3_119 : decode method_4_code 119 = .ok (.bipush 7, 2) := by decide +kernel
theorem d3_121 : decode method_4_code 121 = .ok (.if_icmp .lt 15, 3) := by decide +kernel
theorem d3_136 : decode method_4_code 136 = .ok (.iload_n 2, 1) := by decide +kernel
theorem d3_137 : decode method_4_code 137 = .ok (.bipush 8, 2) := by decide +kernel
theorem d3_139 : decode method_4_code 139 = .ok (.if_icmp .lt 15, 3) := by decide +kernel
theorem d3_154 : decode method_4_code 154 = .ok (.iconst 1, 1) := by decide +kernel
theorem d3_155 : decode method_4_code 155 = .ok (.goto 4, 3) := by decide +kernel
theorem d3_159 : decode method_4_code 159 = .ok (.ireturn, 1) := by decide +kernel
theorem ef_S0 (m : MethodId) (u0 : Addr) (u1 : Addr) : entryFrame m #[(.ref u0), (.ref u1)] 3 = mkF m 0 #[.val (.ref u0), .val (.ref u1), .unset] [] := by first | (simp [entryFrame, mkF, argsToLocals, Value.category]; done) | rfl
def QS0 (Z : State) (u0 : Addr) (u1 : Addr) (k_u0 : ClassId) (k_u1 : ClassId) (h0 : Heap) (n0 : Nat) (v : Option Value) (h : Heap) (L : List Loc) : Prop := v = some (.int (1 : Int32)) ∧ Fr n0 L ∧ h = h0
set_option maxRecDepth 65536 in
set_option maxHeartbeats 40000000 in
theorem rmS0 (l : Launch) (Z : State) (a0 : Array Value) (hw : ∀ d ∈ tables_1, d.before a0 Z = true) (ws : List Jvm.Cond) (u0 : Addr) (u1 : Addr) (k_u0 : ClassId) (k_u1 : ClassId) (h0 : Heap) (n0 : Nat) (Z0 : n0 ≤ h0.size) (V_u0 : Arv Z h0 u0 k_u0 .double (0 : Int32) [] (.double (0 : UInt64))) (V_u1 : Arv Z h0 u1 k_u1 .double (0 : Int32) [] (.double (0 : UInt64))) :
    MetFree l (⟨"com/example/decorum/decorum/graphics/RasterizerClockwisePinLaw", "same", "([D[D)Z"⟩ : MethodName) (head1 (Jvm.Cond.code (⟨"com/example/decorum/decorum/graphics/RasterizerClockwisePinLaw", "same", "([D[D)Z"⟩ : MethodName) method_4_code 3 (some .boolean) :: ws) ({ frames := 0, cells := 0, slots := 0, locals := 0 } : Room)) (fun a U => a = #[(.ref u0), (.ref u1)] ∧ Z.Warmed39 U.vm ∧ U.heap = h0) (fun _ _ _ _ _ => True) (fun _ U o U' => ∃ v L, o = .returned v ∧ QS0 Z u0 u1 k_u0 k_u1 h0 n0 v U'.heap L ∧ FrameEnd U o U' L ({ frames := 0, cells := 0, slots := 0, locals := 0 } : Room).cells ({ frames := 0, cells := 0, slots := 0, locals := 0 } : Room).slots) := by
  refine MetFree.of_bodySF (plainFor_of_name pn_com_example_decorum_decorum_graphics_RasterizerClockwisePinLaw) hisR ?_
  intro p e s m args below meth c s₁ Bd hml0 hP hK
  obtain ⟨rfl, hZ, hh⟩ := hP
  have hx := Bd.exec
  have hby := Bd.bytes
  have hml : c.maxLocals = 3 := hml0
  have hown : s.vm.findClass "com/example/decorum/decorum/graphics/RasterizerClockwisePinLaw" = some m.cls := findClass_of_methodNamed Bd.named
  have hnm := (name_of_methodNamed Bd.named Bd.method).1
  have X0 : Stand p l e ({ frames := 0, cells := 0, slots := 0, locals := 0 } : Room) s m #[(.ref u0), (.ref u1)] below meth c s₁ [] 0 0 := Stand.of_body Bd
  have e0 : s₁.heap = h0 := by rw [← hh, Bd.state]; rfl
  have N0 := Fr.nil n0
  have pre0 : ∀ t, Steps p.tables e below (s₁.setTop (mkF m 0 #[.val (.ref u0), .val (.ref u1), .unset] [])) t → Steps p.tables e below (s₁.setTop (entryFrame m #[(.ref u0), (.ref u1)] 3)) t := fun t k => castTop (ef_S0 m u0 u1) k
  obtain ⟨cl1, Ar1, qa1, Sa1, Na1, Ha1, Ga1⟩ := id V_u0
  have st1 := X0.arraylength hx (by rw [e0]; exact Ar1.1) (State.isArrayOf_alike hZ.alike Ar1.2.1) (g := (mkF m 9 #[.val (.ref u0), .val (.ref u1), .unset] [(.ref u0)])) rfl rfl (hb hby d3_9)
  rw [len_of Sa1 Na1] at st1
  obtain ⟨cl2, Ar2, qa2, Sa2, Na2, Ha2, Ga2⟩ := id V_u1
  have st2 := X0.arraylength hx (by rw [e0]; exact Ar2.1) (State.isArrayOf_alike hZ.alike Ar2.2.1) (g := (mkF m 11 #[.val (.ref u0), .val (.ref u1), .unset] [(.ref u1), (.int (0 : Int32))])) rfl rfl (hb hby d3_11)
  rw [len_of Sa2 Na2] at st2
  have st3 := X0.arraylength hx (by rw [e0]; exact Ar1.1) (State.isArrayOf_alike hZ.alike Ar1.2.1) (g := (mkF m 16 #[.val (.ref u0), .val (.ref u1), .unset] [(.ref u0)])) rfl rfl (hb hby d3_16)
  rw [len_of Sa1 Na1] at st3
  have st4 := X0.arraylength hx (by rw [e0]; exact Ar1.1) (State.isArrayOf_alike hZ.alike Ar1.2.1) (g := (mkF m 25 #[.val (.ref u0), .val (.ref u1), .unset] [(.ref u0)])) rfl rfl (hb hby d3_25)
  rw [len_of Sa1 Na1] at st4
  obtain ⟨fs, hr, hrun, hended, hW, hsame⟩ := X0.leave (v := some (.int (1 : Int32))) (fun h => by rw [Bd.returns] at h; cases h)
  refine ⟨_, _, pre0 _ ?_, hrun, hended, _, _, rfl, ?_, ⟨_, rfl⟩, hW, hsame.mono (by decide) (by decide)⟩
  · show Steps p.tables e below (s₁.setTop (mkF m 0 #[.val (.ref u0), .val (.ref u1), .unset] [])) _
    refine XS.aloadN X0.here hx rfl (hb hby d3_0) rfl rfl ?_
    show Steps p.tables e below (s₁.setTop (mkF m 1 #[.val (.ref u0), .val (.ref u1), .unset] [(.ref u0)])) _
    refine XS.ifnullNo X0.here hx rfl (hb hby d3_1) rfl ?_
    show Steps p.tables e below (s₁.setTop (mkF m 4 #[.val (.ref u0), .val (.ref u1), .unset] [])) _
    refine XS.aloadN X0.here hx rfl (hb hby d3_4) rfl rfl ?_
    show Steps p.tables e below (s₁.setTop (mkF m 5 #[.val (.ref u0), .val (.ref u1), .unset] [(.ref u1)])) _
    refine XS.ifnullNo X0.here hx rfl (hb hby d3_5) rfl ?_
    show Steps p.tables e below (s₁.setTop (mkF m 8 #[.val (.ref u0), .val (.ref u1), .unset] [])) _
    refine XS.aloadN X0.here hx rfl (hb hby d3_8) rfl rfl ?_
    refine st1 _ ?_
    show Steps p.tables e below (s₁.setTop (mkF m 10 #[.val (.ref u0), .val (.ref u1), .unset] [(.int (0 : Int32))])) _
    refine XS.aloadN X0.here hx rfl (hb hby d3_10) rfl rfl ?_
    refine st2 _ ?_
    show Steps p.tables e below (s₁.setTop (mkF m 12 #[.val (.ref u0), .val (.ref u1), .unset] [(.int (0 : Int32)), (.int (0 : Int32))])) _
    refine XS.icmpNo X0.here hx rfl (hb hby d3_12) rfl (teq (by decide)).2 ?_
    refine XS.aloadN X0.here hx rfl (hb hby d3_15) rfl rfl ?_
    refine st3 _ ?_
    show Steps p.tables e below (s₁.setTop (mkF m 17 #[.val (.ref u0), .val (.ref u1), .unset] [(.int (0 : Int32))])) _
    refine XS.bipush X0.here hx rfl (hb hby d3_17) ?_
    refine XS.icmpYes X0.here hx rfl (pc0 := 19) (pc' := 24) rfl (hb hby d3_19) rfl (flt (by decide)).2.2.2 (by decide) (by decide) ?_
    refine XS.aloadN X0.here hx rfl (hb hby d3_24) rfl rfl ?_
    refine st4 _ ?_
    show Steps p.tables e below (s₁.setTop (mkF m 26 #[.val (.ref u0), .val (.ref u1), .unset] [(.int (0 : Int32))])) _
    refine XS.istoreN X0.here hx rfl (hb hby d3_26) rfl (l' := #[.val (.ref u0), .val (.ref u1), .val (.int (0 : Int32))]) rfl ?_
    refine XS.iloadN X0.here hx rfl (hb hby d3_27) rfl ?_
    refine XS.iconst X0.here hx rfl (hb hby d3_28) ?_
    refine XS.icmpYes X0.here hx rfl (pc0 := 29) (pc' := 42) rfl (hb hby d3_29) rfl (tlt (by decide)).1 (by decide) (by decide) ?_
    refine XS.iloadN X0.here hx rfl (hb hby d3_42) rfl ?_
    refine XS.iconst X0.here hx rfl (hb hby d3_43) ?_
    refine XS.icmpYes X0.here hx rfl (pc0 := 44) (pc' := 57) rfl (hb hby d3_44) rfl (tlt (by decide)).1 (by decide) (by decide) ?_
    refine XS.iloadN X0.here hx rfl (hb hby d3_57) rfl ?_
    refine XS.iconst X0.here hx rfl (hb hby d3_58) ?_
    refine XS.icmpYes X0.here hx rfl (pc0 := 59) (pc' := 72) rfl (hb hby d3_59) rfl (tlt (by decide)).1 (by decide) (by decide) ?_
    refine XS.iloadN X0.here hx rfl (hb hby d3_72) rfl ?_
    refine XS.iconst X0.here hx rfl (hb hby d3_73) ?_
    show Steps p.tables e below (s₁.setTop (mkF m 74 #[.val (.ref u0), .val (.ref u1), .val (.int (0 : Int32))] [(.int (4 : Int32)), (.int (0 : Int32))])) _
    refine XS.icmpYes X0.here hx rfl (pc0 := 74) (pc' := 87) rfl (hb hby d3_74) rfl (tlt (by decide)).1 (by decide) (by decide) ?_
    refine XS.iloadN X0.here hx rfl (hb hby d3_87) rfl ?_
    refine XS.iconst X0.here hx rfl (hb hby d3_88) ?_
    refine XS.icmpYes X0.here hx rfl (pc0 := 89) (pc' := 102) rfl (hb hby d3_89) rfl (tlt (by decide)).1 (by decide) (by decide) ?_
    refine XS.iloadN X0.here hx rfl (hb hby d3_102) rfl ?_
    refine XS.bipush X0.here hx rfl (hb hby d3_103) ?_
    refine XS.icmpYes X0.here hx rfl (pc0 := 105) (pc' := 118) rfl (hb hby d3_105) rfl (tlt (by decide)).1 (by decide) (by decide) ?_
    refine XS.iloadN X0.here hx rfl (hb hby d3_118) rfl ?_
    refine XS.bipush X0.here hx rfl (hb hby d3_119) ?_
    refine XS.icmpYes X0.here hx rfl (pc0 := 121) (pc' := 136) rfl (hb hby d3_121) rfl (tlt (by decide)).1 (by decide) (by decide) ?_
    refine XS.iloadN X0.here hx rfl (hb hby d3_136) rfl ?_
    refine XS.bipush X0.here hx rfl (hb hby d3_137) ?_
    show Steps p.tables e below (s₁.setTop (mkF m 139 #[.val (.ref u0), .val (.ref u1), .val (.int (0 : Int32))] [(.int (8 : Int32)), (.int (0 : Int32))])) _
    refine XS.icmpYes X0.here hx rfl (pc0 := 139) (pc' := 154) rfl (hb hby d3_139) rfl (tlt (by decide)).1 (by decide) (by decide) ?_
    refine XS.iconst X0.here hx rfl (hb hby d3_154) ?_
    refine XS.goto X0.here hx rfl (pc0 := 155) (pc' := 159) rfl (hb hby d3_155) (by decide) (by decide) ?_
    show Steps p.tables e below (s₁.setTop (mkF m 159 #[.val (.ref u0), .val (.ref u1), .val (.int (0 : Int32))] [(.int (1 : Int32))])) _
    exact retN X0 hx (t := .boolean) Bd.returns (by simp) (hb hby d3_159) hr
  · show QS0 Z u0 u1 k_u0 k_u1 h0 n0 _ s₁.heap _
    rw [e0]
    exact ⟨rfl, N0, rfl⟩
theorem d3_32 : decode method_4_code 32 = .ok (.aload_n 0, 1) := by decide +kernel
theorem d3_33 : decode method_4_code 33 = .ok (.iconst 0, 1) := by decide +kernel
theorem d3_34 : decode method_4_code 34 = .ok (.daload, 1) := by decide +kernel
theorem d3_35 : decode method_4_code 35 = .ok (.aload_n 1, 1) := by decide +kernel
theorem d3_36 : decode method_4_code 36 = .ok (.iconst 0, 1) := by decide +kernel
theorem d3_37 : decode method_4_code 37 = .ok (.daload, 1) := by decide +kernel
theorem d3_38 : decode method_4_code 38 = .ok (.dcmp .l, 1) := by decide +kernel
theorem d3_39 : decode method_4_code 39 = .ok (.ifCond .ne 119, 3) := by decide +kernel
theorem d3_47 : decode method_4_code 47 = .ok (.aload_n 0, 1) := by decide +kernel
theorem d3_48 : decode method_4_code 48 = .ok (.iconst 1, 1) := by decide +kernel
theorem d3_49 : decode method_4_code 49 = .ok (.daload, 1) := by decide +kernel
theorem d3_50 : decode method_4_code 50 = .ok (.aload_n 1, 1) := by decide +kernel
theorem d3_51 : decode method_4_code 51 = .ok (.iconst 1, 1) := by decide +kernel
theorem d3_52 : decode method_4_code 52 = .ok (.daload, 1) := by decide +kernel
theorem d3_53 : decode method_4_code 53 = .ok (.dcmp .l, 1) := by decide +kernel
theorem d3_54 : decode method_4_code 54 = .ok (.ifCond .ne 104, 3) := by decide +kernel
theorem ef_S1 (m : MethodId) (u0 : Addr) (u1 : Addr) : entryFrame m #[(.ref u0), (.ref u1)] 3 = mkF m 0 #[.val (.ref u0), .val (.ref u1), .unset] [] := by first | (simp [entryFrame, mkF, argsToLocals, Value.category]; done) | rfl
def QS1 (Z : State) (u0 : Addr) (u1 : Addr) (k_u0 : ClassId) (k_u1 : ClassId) (d0 : UInt64) (d1 : UInt64) (h0 : Heap) (n0 : Nat) (v : Option Value) (h : Heap) (L : List Loc) : Prop := v = some (.int (1 : Int32)) ∧ Fr n0 L ∧ h = h0
set_option maxRecDepth 65536 in
set_option maxHeartbeats 40000000 in
theorem rmS1 (l : Launch) (Z : State) (a0 : Array Value) (hw : ∀ d ∈ tables_1, d.before a0 Z = true) (ws : List Jvm.Cond) (u0 : Addr) (u1 : Addr) (k_u0 : ClassId) (k_u1 : ClassId) (d0 : UInt64) (d1 : UInt64) (h0 : Heap) (n0 : Nat) (Z0 : n0 ≤ h0.size) (V_u0 : Arv Z h0 u0 k_u0 .double (2 : Int32) [(.double d0), (.double d1)] (.double (0 : UInt64))) (V_u1 : Arv Z h0 u1 k_u1 .double (2 : Int32) [(.double d0), (.double d1)] (.double (0 : UInt64))) (nn_d0 : Jvm.Free.Fl.NoNaN64 d0) (nn_d1 : Jvm.Free.Fl.NoNaN64 d1) :
    MetFree l (⟨"com/example/decorum/decorum/graphics/RasterizerClockwisePinLaw", "same", "([D[D)Z"⟩ : MethodName) (head1 (Jvm.Cond.code (⟨"com/example/decorum/decorum/graphics/RasterizerClockwisePinLaw", "same", "([D[D)Z"⟩ : MethodName) method_4_code 3 (some .boolean) :: ws) ({ frames := 0, cells := 0, slots := 0, locals := 0 } : Room)) (fun a U => a = #[(.ref u0), (.ref u1)] ∧ Z.Warmed39 U.vm ∧ U.heap = h0) (fun _ _ _ _ _ => True) (fun _ U o U' => ∃ v L, o = .returned v ∧ QS1 Z u0 u1 k_u0 k_u1 d0 d1 h0 n0 v U'.heap L ∧ FrameEnd U o U' L ({ frames := 0, cells := 0, slots := 0, locals := 0 } : Room).cells ({ frames := 0, cells := 0, slots := 0, locals := 0 } : Room).slots) := by
  refine MetFree.of_bodySF (plainFor_of_name pn_com_example_decorum_decorum_graphics_RasterizerClockwisePinLaw) hisR ?_
  intro p e s m args below meth c s₁ Bd hml0 hP hK
  obtain ⟨rfl, hZ, hh⟩ := hP
  have hx := Bd.exec
  have hby := Bd.bytes
  have hml : c.maxLocals = 3 := hml0
  have hown : s.vm.findClass "com/example/decorum/decorum/graphics/RasterizerClockwisePinLaw" = some m.cls := findClass_of_methodNamed Bd.named
  have hnm := (name_of_methodNamed Bd.named Bd.method).1
  have X0 : Stand p l e ({ frames := 0, cells := 0, slots := 0, locals := 0 } : Room) s m #[(.ref u0), (.ref u1)] below meth c s₁ [] 0 0 := Stand.of_body Bd
  have e0 : s₁.heap = h0 := by rw [← hh, Bd.state]; rfl
  have N0 := Fr.nil n0
  have pre0 : ∀ t, Steps p.tables e below (s₁.setTop (mkF m 0 #[.val (.ref u0), .val (.ref u1), .unset] [])) t → Steps p.tables e below (s₁.setTop (entryFrame m #[(.ref u0), (.ref u1)] 3)) t := fun t k => castTop (ef_S1 m u0 u1) k
  obtain ⟨cl1, Ar1, qa1, Sa1, Na1, Ha1, Ga1⟩ := id V_u0
  have st1 := X0.arraylength hx (by rw [e0]; exact Ar1.1) (State.isArrayOf_alike hZ.alike Ar1.2.1) (g := (mkF m 9 #[.val (.ref u0), .val (.ref u1), .unset] [(.ref u0)])) rfl rfl (hb hby d3_9)
  rw [len_of Sa1 Na1] at st1
  obtain ⟨cl2, Ar2, qa2, Sa2, Na2, Ha2, Ga2⟩ := id V_u1
  have st2 := X0.arraylength hx (by rw [e0]; exact Ar2.1) (State.isArrayOf_alike hZ.alike Ar2.2.1) (g := (mkF m 11 #[.val (.ref u0), .val (.ref u1), .unset] [(.ref u1), (.int (2 : Int32))])) rfl rfl (hb hby d3_11)
  rw [len_of Sa2 Na2] at st2
  have st3 := X0.arraylength hx (by rw [e0]; exact Ar1.1) (State.isArrayOf_alike hZ.alike Ar1.2.1) (g := (mkF m 16 #[.val (.ref u0), .val (.ref u1), .unset] [(.ref u0)])) rfl rfl (hb hby d3_16)
  rw [len_of Sa1 Na1] at st3
  have st4 := X0.arraylength hx (by rw [e0]; exact Ar1.1) (State.isArrayOf_alike hZ.alike Ar1.2.1) (g := (mkF m 25 #[.val (.ref u0), .val (.ref u1), .unset] [(.ref u0)])) rfl rfl (hb hby d3_25)
  rw [len_of Sa1 Na1] at st4
  have hi5 := inb_of (j := (0 : Int32)) Sa1 ⟨by decide, by decide⟩
  have st5 := X0.daload hx (j := (0 : Int32)) (v := (.double d0)) (by rw [e0]; exact Ar1.1) (State.isArrayOf_alike hZ.alike Ar1.2.1) Ar1.2.2 hi5 (Has.at Ha1 hi5 rfl) (g := (mkF m 34 #[.val (.ref u0), .val (.ref u1), .val (.int (2 : Int32))] [(.int (0 : Int32)), (.ref u0)])) rfl rfl (hb hby d3_34)
  have hi6 := inb_of (j := (0 : Int32)) Sa2 ⟨by decide, by decide⟩
  have st6 := X0.daload hx (j := (0 : Int32)) (v := (.double d0)) (by rw [e0]; exact Ar2.1) (State.isArrayOf_alike hZ.alike Ar2.2.1) Ar2.2.2 hi6 (Has.at Ha2 hi6 rfl) (g := (mkF m 37 #[.val (.ref u0), .val (.ref u1), .val (.int (2 : Int32))] [(.int (0 : Int32)), (.ref u1), (.double d0)])) rfl rfl (hb hby d3_37)
  have hi7 := inb_of (j := (1 : Int32)) Sa1 ⟨by decide, by decide⟩
  have st7 := X0.daload hx (j := (1 : Int32)) (v := (.double d1)) (by rw [e0]; exact Ar1.1) (State.isArrayOf_alike hZ.alike Ar1.2.1) Ar1.2.2 hi7 (Has.at Ha1 hi7 rfl) (g := (mkF m 49 #[.val (.ref u0), .val (.ref u1), .val (.int (2 : Int32))] [(.int (1 : Int32)), (.ref u0)])) rfl rfl (hb hby d3_49)
  have hi8 := inb_of (j := (1 : Int32)) Sa2 ⟨by decide, by decide⟩
  have st8 := X0.daload hx (j := (1 : Int32)) (v := (.double d1)) (by rw [e0]; exact Ar2.1) (State.isArrayOf_alike hZ.alike Ar2.2.1) Ar2.2.2 hi8 (Has.at Ha2 hi8 rfl) (g := (mkF m 52 #[.val (.ref u0), .val (.ref u1), .val (.int (2 : Int32))] [(.int (1 : Int32)), (.ref u1), (.double d1)])) rfl rfl (hb hby d3_52)
  obtain ⟨fs, hr, hrun, hended, hW, hsame⟩ := X0.leave (v := some (.int (1 : Int32))) (fun h => by rw [Bd.returns] at h; cases h)
  refine ⟨_, _, pre0 _ ?_, hrun, hended, _, _, rfl, ?_, ⟨_, rfl⟩, hW, hsame.mono (by decide) (by decide)⟩
  · show Steps p.tables e below (s₁.setTop (mkF m 0 #[.val (.ref u0), .val (.ref u1), .unset] [])) _
    refine XS.aloadN X0.here hx rfl (hb hby d3_0) rfl rfl ?_
    show Steps p.tables e below (s₁.setTop (mkF m 1 #[.val (.ref u0), .val (.ref u1), .unset] [(.ref u0)])) _
    refine XS.ifnullNo X0.here hx rfl (hb hby d3_1) rfl ?_
    show Steps p.tables e below (s₁.setTop (mkF m 4 #[.val (.ref u0), .val (.ref u1), .unset] [])) _
    refine XS.aloadN X0.here hx rfl (hb hby d3_4) rfl rfl ?_
    show Steps p.tables e below (s₁.setTop (mkF m 5 #[.val (.ref u0), .val (.ref u1), .unset] [(.ref u1)])) _
    refine XS.ifnullNo X0.here hx rfl (hb hby d3_5) rfl ?_
    show Steps p.tables e below (s₁.setTop (mkF m 8 #[.val (.ref u0), .val (.ref u1), .unset] [])) _
    refine XS.aloadN X0.here hx rfl (hb hby d3_8) rfl rfl ?_
    refine st1 _ ?_
    show Steps p.tables e below (s₁.setTop (mkF m 10 #[.val (.ref u0), .val (.ref u1), .unset] [(.int (2 : Int32))])) _
    refine XS.aloadN X0.here hx rfl (hb hby d3_10) rfl rfl ?_
    refine st2 _ ?_
    show Steps p.tables e below (s₁.setTop (mkF m 12 #[.val (.ref u0), .val (.ref u1), .unset] [(.int (2 : Int32)), (.int (2 : Int32))])) _
    refine XS.icmpNo X0.here hx rfl (hb hby d3_12) rfl (teq (by decide)).2 ?_
    refine XS.aloadN X0.here hx rfl (hb hby d3_15) rfl rfl ?_
    refine st3 _ ?_
    show Steps p.tables e below (s₁.setTop (mkF m 17 #[.val (.ref u0), .val (.ref u1), .unset] [(.int (2 : Int32))])) _
    refine XS.bipush X0.here hx rfl (hb hby d3_17) ?_
    refine XS.icmpYes X0.here hx rfl (pc0 := 19) (pc' := 24) rfl (hb hby d3_19) rfl (flt (by decide)).2.2.2 (by decide) (by decide) ?_
    refine XS.aloadN X0.here hx rfl (hb hby d3_24) rfl rfl ?_
    refine st4 _ ?_
    show Steps p.tables e below (s₁.setTop (mkF m 26 #[.val (.ref u0), .val (.ref u1), .unset] [(.int (2 : Int32))])) _
    refine XS.istoreN X0.here hx rfl (hb hby d3_26) rfl (l' := #[.val (.ref u0), .val (.ref u1), .val (.int (2 : Int32))]) rfl ?_
    refine XS.iloadN X0.here hx rfl (hb hby d3_27) rfl ?_
    refine XS.iconst X0.here hx rfl (hb hby d3_28) ?_
    refine XS.icmpNo X0.here hx rfl (hb hby d3_29) rfl (flt (by decide)).1 ?_
    refine XS.aloadN X0.here hx rfl (hb hby d3_32) rfl rfl ?_
    refine XS.iconst X0.here hx rfl (hb hby d3_33) ?_
    refine st5 _ ?_
    show Steps p.tables e below (s₁.setTop (mkF m 35 #[.val (.ref u0), .val (.ref u1), .val (.int (2 : Int32))] [(.double d0)])) _
    refine XS.aloadN X0.here hx rfl (hb hby d3_35) rfl rfl ?_
    refine XS.iconst X0.here hx rfl (hb hby d3_36) ?_
    refine st6 _ ?_
    show Steps p.tables e below (s₁.setTop (mkF m 38 #[.val (.ref u0), .val (.ref u1), .val (.int (2 : Int32))] [(.double d0), (.double d0)])) _
    refine XS.dcmpS X0.here hx rfl (hb hby d3_38) rfl (v := (0 : Int32)) (dcmpV_self nn_d0 _) ?_
    refine XS.ifNo X0.here hx rfl (hb hby d3_39) rfl ((if0 _ _).trans (teq (by decide)).2) ?_
    refine XS.iloadN X0.here hx rfl (hb hby d3_42) rfl ?_
    refine XS.iconst X0.here hx rfl (hb hby d3_43) ?_
    refine XS.icmpNo X0.here hx rfl (hb hby d3_44) rfl (flt (by decide)).1 ?_
    refine XS.aloadN X0.here hx rfl (hb hby d3_47) rfl rfl ?_
    refine XS.iconst X0.here hx rfl (hb hby d3_48) ?_
    refine st7 _ ?_
    show Steps p.tables e below (s₁.setTop (mkF m 50 #[.val (.ref u0), .val (.ref u1), .val (.int (2 : Int32))] [(.double d1)])) _
    refine XS.aloadN X0.here hx rfl (hb hby d3_50) rfl rfl ?_
    refine XS.iconst X0.here hx rfl (hb hby d3_51) ?_
    refine st8 _ ?_
    show Steps p.tables e below (s₁.setTop (mkF m 53 #[.val (.ref u0), .val (.ref u1), .val (.int (2 : Int32))] [(.double d1), (.double d1)])) _
    refine XS.dcmpS X0.here hx rfl (hb hby d3_53) rfl (v := (0 : Int32)) (dcmpV_self nn_d1 _) ?_
    refine XS.ifNo X0.here hx rfl (hb hby d3_54) rfl ((if0 _ _).trans (teq (by decide)).2) ?_
    refine XS.iloadN X0.here hx rfl (hb hby d3_57) rfl ?_
    refine XS.iconst X0.here hx rfl (hb hby d3_58) ?_
    refine XS.icmpYes X0.here hx rfl (pc0 := 59) (pc' := 72) rfl (hb hby d3_59) rfl (tlt (by decide)).1 (by decide) (by decide) ?_
    refine XS.iloadN X0.here hx rfl (hb hby d3_72) rfl ?_
    refine XS.iconst X0.here hx rfl (hb hby d3_73) ?_
    refine XS.icmpYes X0.here hx rfl (pc0 := 74) (pc' := 87) rfl (hb hby d3_74) rfl (tlt (by decide)).1 (by decide) (by decide) ?_
    refine XS.iloadN X0.here hx rfl (hb hby d3_87) rfl ?_
    refine XS.iconst X0.here hx rfl (hb hby d3_88) ?_
    refine XS.icmpYes X0.here hx rfl (pc0 := 89) (pc' := 102) rfl (hb hby d3_89) rfl (tlt (by decide)).1 (by decide) (by decide) ?_
    refine XS.iloadN X0.here hx rfl (hb hby d3_102) rfl ?_
    show Steps p.tables e below (s₁.setTop (mkF m 103 #[.val (.ref u0), .val (.ref u1), .val (.int (2 : Int32))] [(.int (2 : Int32))])) _
    refine XS.bipush X0.here hx rfl (hb hby d3_103) ?_
    refine XS.icmpYes X0.here hx rfl (pc0 := 105) (pc' := 118) rfl (hb hby d3_105) rfl (tlt (by decide)).1 (by decide) (by decide) ?_
    refine XS.iloadN X0.here hx rfl (hb hby d3_118) rfl ?_
    refine XS.bipush X0.here hx rfl (hb hby d3_119) ?_
    refine XS.icmpYes X0.here hx rfl (pc0 := 121) (pc' := 136) rfl (hb hby d3_121) rfl (tlt (by decide)).1 (by decide) (by decide) ?_
    refine XS.iloadN X0.here hx rfl (hb hby d3_136) rfl ?_
    refine XS.bipush X0.here hx rfl (hb hby d3_137) ?_
    refine XS.icmpYes X0.here hx rfl (pc0 := 139) (pc' := 154) rfl (hb hby d3_139) rfl (tlt (by decide)).1 (by decide) (by decide) ?_
    refine XS.iconst X0.here hx rfl (hb hby d3_154) ?_
    refine XS.goto X0.here hx rfl (pc0 := 155) (pc' := 159) rfl (hb hby d3_155) (by decide) (by decide) ?_
    show Steps p.tables e below (s₁.setTop (mkF m 159 #[.val (.ref u0), .val (.ref u1), .val (.int (2 : Int32))] [(.int (1 : Int32))])) _
    exact retN X0 hx (t := .boolean) Bd.returns (by simp) (hb hby d3_159) hr
  · show QS1 Z u0 u1 k_u0 k_u1 d0 d1 h0 n0 _ s₁.heap _
    rw [e0]
    exact ⟨rfl, N0, rfl⟩
theorem d3_62 : decode method_4_code 62 = .ok (.aload_n 0, 1) := by decide +kernel
theorem d3_63 : decode method_4_code 63 = .ok (.iconst 2, 1) := by decide +kernel
theorem d3_64 : decode method_4_code 64 = .ok (.daload, 1) := by decide +kernel
theorem d3_65 : decode method_4_code 65 = .ok (.aload_n 1, 1) := by decide +kernel
theorem d3_66 : decode method_4_code 66 = .ok (.iconst 2, 1) := by decide +kernel
theorem d3_67 : decode method_4_code 67 = .ok (.daload, 1) := by decide +kernel
theorem d3_68 : decode method_4_code 68 = .ok (.dcmp .l, 1) := by decide +kernel
theorem d3_69 : decode method_4_code 69 = .ok (.ifCond .ne 89, 3) := by decide +kernel
theorem d3_77 : decode method_4_code 77 = .ok (.aload_n 0, 1) := by decide +kernel
theorem d3_78 : decode method_4_code 78 = .ok (.iconst 3, 1) := by decide +kernel
theorem d3_79 : decode method_4_code 79 = .ok (.daload, 1) := by decide +kernel
theorem d3_80 : decode method_4_code 80 = .ok (.aload_n 1, 1) := by decide +kernel
theorem d3_81 : decode method_4_code 81 = .ok (.iconst 3, 1) := by decide +kernel
theorem d3_82 : decode method_4_code 82 = .ok (.daload, 1) := by decide +kernel
theorem d3_83 : decode method_4_code 83 = .ok (.dcmp .l, 1) := by decide +kernel
theorem d3_84 : decode method_4_code 84 = .ok (.ifCond .ne 74, 3) := by decide +kernel
theorem ef_S2 (m : MethodId) (u0 : Addr) (u1 : Addr) : entryFrame m #[(.ref u0), (.ref u1)] 3 = mkF m 0 #[.val (.ref u0), .val (.ref u1), .unset] [] := by first | (simp [entryFrame, mkF, argsToLocals, Value.category]; done) | rfl
def QS2 (Z : State) (u0 : Addr) (u1 : Addr) (k_u0 : ClassId) (k_u1 : ClassId) (d0 : UInt64) (d1 : UInt64) (d2 : UInt64) (d3 : UInt64) (h0 : Heap) (n0 : Nat) (v : Option Value) (h : Heap) (L : List Loc) : Prop := v = some (.int (1 : Int32)) ∧ Fr n0 L ∧ h = h0
set_option maxRecDepth 65536 in
set_option maxHeartbeats 40000000 in
theorem rmS2 (l : Launch) (Z : State) (a0 : Array Value) (hw : ∀ d ∈ tables_1, d.before a0 Z = true) (ws : List Jvm.Cond) (u0 : Addr) (u1 : Addr) (k_u0 : ClassId) (k_u1 : ClassId) (d0 : UInt64) (d1 : UInt64) (d2 : UInt64) (d3 : UInt64) (h0 : Heap) (n0 : Nat) (Z0 : n0 ≤ h0.size) (V_u0 : Arv Z h0 u0 k_u0 .double (4 : Int32) [(.double d0), (.double d1), (.double d2), (.double d3)] (.double (0 : UInt64))) (V_u1 : Arv Z h0 u1 k_u1 .double (4 : Int32) [(.double d0), (.double d1), (.double d2), (.double d3)] (.double (0 : UInt64))) (nn_d0 : Jvm.Free.Fl.NoNaN64 d0) (nn_d1 : Jvm.Free.Fl.NoNaN64 d1) (nn_d2 : Jvm.Free.Fl.NoNaN64 d2) (nn_d3 : Jvm.Free.Fl.NoNaN64 d3) :
    MetFree l (⟨"com/example/decorum/decorum/graphics/RasterizerClockwisePinLaw", "same", "([D[D)Z"⟩ : MethodName) (head1 (Jvm.Cond.code (⟨"com/example/decorum/decorum/graphics/RasterizerClockwisePinLaw", "same", "([D[D)Z"⟩ : MethodName) method_4_code 3 (some .boolean) :: ws) ({ frames := 0, cells := 0, slots := 0, locals := 0 } : Room)) (fun a U => a = #[(.ref u0), (.ref u1)] ∧ Z.Warmed39 U.vm ∧ U.heap = h0) (fun _ _ _ _ _ => True) (fun _ U o U' => ∃ v L, o = .returned v ∧ QS2 Z u0 u1 k_u0 k_u1 d0 d1 d2 d3 h0 n0 v U'.heap L ∧ FrameEnd U o U' L ({ frames := 0, cells := 0, slots := 0, locals := 0 } : Room).cells ({ frames := 0, cells := 0, slots := 0, locals := 0 } : Room).slots) := by
  refine MetFree.of_bodySF (plainFor_of_name pn_com_example_decorum_decorum_graphics_RasterizerClockwisePinLaw) hisR ?_
  intro p e s m args below meth c s₁ Bd hml0 hP hK
  obtain ⟨rfl, hZ, hh⟩ := hP
  have hx := Bd.exec
  have hby := Bd.bytes
  have hml : c.maxLocals = 3 := hml0
  have hown : s.vm.findClass "com/example/decorum/decorum/graphics/RasterizerClockwisePinLaw" = some m.cls := findClass_of_methodNamed Bd.named
  have hnm := (name_of_methodNamed Bd.named Bd.method).1
  have X0 : Stand p l e ({ frames := 0, cells := 0, slots := 0, locals := 0 } : Room) s m #[(.ref u0), (.ref u1)] below meth c s₁ [] 0 0 := Stand.of_body Bd
  have e0 : s₁.heap = h0 := by rw [← hh, Bd.state]; rfl
  have N0 := Fr.nil n0
  have pre0 : ∀ t, Steps p.tables e below (s₁.setTop (mkF m 0 #[.val (.ref u0), .val (.ref u1), .unset] [])) t → Steps p.tables e below (s₁.setTop (entryFrame m #[(.ref u0), (.ref u1)] 3)) t := fun t k => castTop (ef_S2 m u0 u1) k
  obtain ⟨cl1, Ar1, qa1, Sa1, Na1, Ha1, Ga1⟩ := id V_u0
  have st1 := X0.arraylength hx (by rw [e0]; exact Ar1.1) (State.isArrayOf_alike hZ.alike Ar1.2.1) (g := (mkF m 9 #[.val (.ref u0), .val (.ref u1), .unset] [(.ref u0)])) rfl rfl (hb hby d3_9)
  rw [len_of Sa1 Na1] at st1
  obtain ⟨cl2, Ar2, qa2, Sa2, Na2, Ha2, Ga2⟩ := id V_u1
  have st2 := X0.arraylength hx (by rw [e0]; exact Ar2.1) (State.isArrayOf_alike hZ.alike Ar2.2.1) (g := (mkF m 11 #[.val (.ref u0), .val (.ref u1), .unset] [(.ref u1), (.int (4 : Int32))])) rfl rfl (hb hby d3_11)
  rw [len_of Sa2 Na2] at st2
  have st3 := X0.arraylength hx (by rw [e0]; exact Ar1.1) (State.isArrayOf_alike hZ.alike Ar1.2.1) (g := (mkF m 16 #[.val (.ref u0), .val (.ref u1), .unset] [(.ref u0)])) rfl rfl (hb hby d3_16)
  rw [len_of Sa1 Na1] at st3
  have st4 := X0.arraylength hx (by rw [e0]; exact Ar1.1) (State.isArrayOf_alike hZ.alike Ar1.2.1) (g := (mkF m 25 #[.val (.ref u0), .val (.ref u1), .unset] [(.ref u0)])) rfl rfl (hb hby d3_25)
  rw [len_of Sa1 Na1] at st4
  have hi5 := inb_of (j := (0 : Int32)) Sa1 ⟨by decide, by decide⟩
  have st5 := X0.daload hx (j := (0 : Int32)) (v := (.double d0)) (by rw [e0]; exact Ar1.1) (State.isArrayOf_alike hZ.alike Ar1.2.1) Ar1.2.2 hi5 (Has.at Ha1 hi5 rfl) (g := (mkF m 34 #[.val (.ref u0), .val (.ref u1), .val (.int (4 : Int32))] [(.int (0 : Int32)), (.ref u0)])) rfl rfl (hb hby d3_34)
  have hi6 := inb_of (j := (0 : Int32)) Sa2 ⟨by decide, by decide⟩
  have st6 := X0.daload hx (j := (0 : Int32)) (v := (.double d0)) (by rw [e0]; exact Ar2.1) (State.isArrayOf_alike hZ.alike Ar2.2.1) Ar2.2.2 hi6 (Has.at Ha2 hi6 rfl) (g := (mkF m 37 #[.val (.ref u0), .val (.ref u1), .val (.int (4 : Int32))] [(.int (0 : Int32)), (.ref u1), (.double d0)])) rfl rfl (hb hby d3_37)
  have hi7 := inb_of (j := (1 : Int32)) Sa1 ⟨by decide, by decide⟩
  have st7 := X0.daload hx (j := (1 : Int32)) (v := (.double d1)) (by rw [e0]; exact Ar1.1) (State.isArrayOf_alike hZ.alike Ar1.2.1) Ar1.2.2 hi7 (Has.at Ha1 hi7 rfl) (g := (mkF m 49 #[.val (.ref u0), .val (.ref u1), .val (.int (4 : Int32))] [(.int (1 : Int32)), (.ref u0)])) rfl rfl (hb hby d3_49)
  have hi8 := inb_of (j := (1 : Int32)) Sa2 ⟨by decide, by decide⟩
  have st8 := X0.daload hx (j := (1 : Int32)) (v := (.double d1)) (by rw [e0]; exact Ar2.1) (State.isArrayOf_alike hZ.alike Ar2.2.1) Ar2.2.2 hi8 (Has.at Ha2 hi8 rfl) (g := (mkF m 52 #[.val (.ref u0), .val (.ref u1), .val (.int (4 : Int32))] [(.int (1 : Int32)), (.ref u1), (.double d1)])) rfl rfl (hb hby d3_52)
  have hi9 := inb_of (j := (2 : Int32)) Sa1 ⟨by decide, by decide⟩
  have st9 := X0.daload hx (j := (2 : Int32)) (v := (.double d2)) (by rw [e0]; exact Ar1.1) (State.isArrayOf_alike hZ.alike Ar1.2.1) Ar1.2.2 hi9 (Has.at Ha1 hi9 rfl) (g := (mkF m 64 #[.val (.ref u0), .val (.ref u1), .val (.int (4 : Int32))] [(.int (2 : Int32)), (.ref u0)])) rfl rfl (hb hby d3_64)
  have hi10 := inb_of (j := (2 : Int32)) Sa2 ⟨by decide, by decide⟩
  have st10 := X0.daload hx (j := (2 : Int32)) (v := (.double d2)) (by rw [e0]; exact Ar2.1) (State.isArrayOf_alike hZ.alike Ar2.2.1) Ar2.2.2 hi10 (Has.at Ha2 hi10 rfl) (g := (mkF m 67 #[.val (.ref u0), .val (.ref u1), .val (.int (4 : Int32))] [(.int (2 : Int32)), (.ref u1), (.double d2)])) rfl rfl (hb hby d3_67)
  have hi11 := inb_of (j := (3 : Int32)) Sa1 ⟨by decide, by decide⟩
  have st11 := X0.daload hx (j := (3 : Int32)) (v := (.double d3)) (by rw [e0]; exact Ar1.1) (State.isArrayOf_alike hZ.alike Ar1.2.1) Ar1.2.2 hi11 (Has.at Ha1 hi11 rfl) (g := (mkF m 79 #[.val (.ref u0), .val (.ref u1), .val (.int (4 : Int32))] [(.int (3 : Int32)), (.ref u0)])) rfl rfl (hb hby d3_79)
  have hi12 := inb_of (j := (3 : Int32)) Sa2 ⟨by decide, by decide⟩
  have st12 := X0.daload hx (j := (3 : Int32)) (v := (.double d3)) (by rw [e0]; exact Ar2.1) (State.isArrayOf_alike hZ.alike Ar2.2.1) Ar2.2.2 hi12 (Has.at Ha2 hi12 rfl) (g := (mkF m 82 #[.val (.ref u0), .val (.ref u1), .val (.int (4 : Int32))] [(.int (3 : Int32)), (.ref u1), (.double d3)])) rfl rfl (hb hby d3_82)
  obtain ⟨fs, hr, hrun, hended, hW, hsame⟩ := X0.leave (v := some (.int (1 : Int32))) (fun h => by rw [Bd.returns] at h; cases h)
  refine ⟨_, _, pre0 _ ?_, hrun, hended, _, _, rfl, ?_, ⟨_, rfl⟩, hW, hsame.mono (by decide) (by decide)⟩
  · show Steps p.tables e below (s₁.setTop (mkF m 0 #[.val (.ref u0), .val (.ref u1), .unset] [])) _
    refine XS.aloadN X0.here hx rfl (hb hby d3_0) rfl rfl ?_
    show Steps p.tables e below (s₁.setTop (mkF m 1 #[.val (.ref u0), .val (.ref u1), .unset] [(.ref u0)])) _
    refine XS.ifnullNo X0.here hx rfl (hb hby d3_1) rfl ?_
    show Steps p.tables e below (s₁.setTop (mkF m 4 #[.val (.ref u0), .val (.ref u1), .unset] [])) _
    refine XS.aloadN X0.here hx rfl (hb hby d3_4) rfl rfl ?_
    show Steps p.tables e below (s₁.setTop (mkF m 5 #[.val (.ref u0), .val (.ref u1), .unset] [(.ref u1)])) _
    refine XS.ifnullNo X0.here hx rfl (hb hby d3_5) rfl ?_
    show Steps p.tables e below (s₁.setTop (mkF m 8 #[.val (.ref u0), .val (.ref u1), .unset] [])) _
    refine XS.aloadN X0.here hx rfl (hb hby d3_8) rfl rfl ?_
    refine st1 _ ?_
    show Steps p.tables e below (s₁.setTop (mkF m 10 #[.val (.ref u0), .val (.ref u1), .unset] [(.int (4 : Int32))])) _
    refine XS.aloadN X0.here hx rfl (hb hby d3_10) rfl rfl ?_
    refine st2 _ ?_
    show Steps p.tables e below (s₁.setTop (mkF m 12 #[.val (.ref u0), .val (.ref u1), .unset] [(.int (4 : Int32)), (.int (4 : Int32))])) _
    refine XS.icmpNo X0.here hx rfl (hb hby d3_12) rfl (teq (by decide)).2 ?_
    refine XS.aloadN X0.here hx rfl (hb hby d3_15) rfl rfl ?_
    refine st3 _ ?_
    show Steps p.tables e below (s₁.setTop (mkF m 17 #[.val (.ref u0), .val (.ref u1), .unset] [(.int (4 : Int32))])) _
    refine XS.bipush X0.here hx rfl (hb hby d3_17) ?_
    refine XS.icmpYes X0.here hx rfl (pc0 := 19) (pc' := 24) rfl (hb hby d3_19) rfl (flt (by decide)).2.2.2 (by decide) (by decide) ?_
    refine XS.aloadN X0.here hx rfl (hb hby d3_24) rfl rfl ?_
    refine st4 _ ?_
    show Steps p.tables e below (s₁.setTop (mkF m 26 #[.val (.ref u0), .val (.ref u1), .unset] [(.int (4 : Int32))])) _
    refine XS.istoreN X0.here hx rfl (hb hby d3_26) rfl (l' := #[.val (.ref u0), .val (.ref u1), .val (.int (4 : Int32))]) rfl ?_
    refine XS.iloadN X0.here hx rfl (hb hby d3_27) rfl ?_
    refine XS.iconst X0.here hx rfl (hb hby d3_28) ?_
    refine XS.icmpNo X0.here hx rfl (hb hby d3_29) rfl (flt (by decide)).1 ?_
    refine XS.aloadN X0.here hx rfl (hb hby d3_32) rfl rfl ?_
    refine XS.iconst X0.here hx rfl (hb hby d3_33) ?_
    refine st5 _ ?_
    show Steps p.tables e below (s₁.setTop (mkF m 35 #[.val (.ref u0), .val (.ref u1), .val (.int (4 : Int32))] [(.double d0)])) _
    refine XS.aloadN X0.here hx rfl (hb hby d3_35) rfl rfl ?_
    refine XS.iconst X0.here hx rfl (hb hby d3_36) ?_
    refine st6 _ ?_
    show Steps p.tables e below (s₁.setTop (mkF m 38 #[.val (.ref u0), .val (.ref u1), .val (.int (4 : Int32))] [(.double d0), (.double d0)])) _
    refine XS.dcmpS X0.here hx rfl (hb hby d3_38) rfl (v := (0 : Int32)) (dcmpV_self nn_d0 _) ?_
    refine XS.ifNo X0.here hx rfl (hb hby d3_39) rfl ((if0 _ _).trans (teq (by decide)).2) ?_
    refine XS.iloadN X0.here hx rfl (hb hby d3_42) rfl ?_
    refine XS.iconst X0.here hx rfl (hb hby d3_43) ?_
    refine XS.icmpNo X0.here hx rfl (hb hby d3_44) rfl (flt (by decide)).1 ?_
    refine XS.aloadN X0.here hx rfl (hb hby d3_47) rfl rfl ?_
    refine XS.iconst X0.here hx rfl (hb hby d3_48) ?_
    refine st7 _ ?_
    show Steps p.tables e below (s₁.setTop (mkF m 50 #[.val (.ref u0), .val (.ref u1), .val (.int (4 : Int32))] [(.double d1)])) _
    refine XS.aloadN X0.here hx rfl (hb hby d3_50) rfl rfl ?_
    refine XS.iconst X0.here hx rfl (hb hby d3_51) ?_
    refine st8 _ ?_
    show Steps p.tables e below (s₁.setTop (mkF m 53 #[.val (.ref u0), .val (.ref u1), .val (.int (4 : Int32))] [(.double d1), (.double d1)])) _
    refine XS.dcmpS X0.here hx rfl (hb hby d3_53) rfl (v := (0 : Int32)) (dcmpV_self nn_d1 _) ?_
    refine XS.ifNo X0.here hx rfl (hb hby d3_54) rfl ((if0 _ _).trans (teq (by decide)).2) ?_
    refine XS.iloadN X0.here hx rfl (hb hby d3_57) rfl ?_
    refine XS.iconst X0.here hx rfl (hb hby d3_58) ?_
    refine XS.icmpNo X0.here hx rfl (hb hby d3_59) rfl (flt (by decide)).1 ?_
    refine XS.aloadN X0.here hx rfl (hb hby d3_62) rfl rfl ?_
    refine XS.iconst X0.here hx rfl (hb hby d3_63) ?_
    refine st9 _ ?_
    show Steps p.tables e below (s₁.setTop (mkF m 65 #[.val (.ref u0), .val (.ref u1), .val (.int (4 : Int32))] [(.double d2)])) _
    refine XS.aloadN X0.here hx rfl (hb hby d3_65) rfl rfl ?_
    refine XS.iconst X0.here hx rfl (hb hby d3_66) ?_
    refine st10 _ ?_
    show Steps p.tables e below (s₁.setTop (mkF m 68 #[.val (.ref u0), .val (.ref u1), .val (.int (4 : Int32))] [(.double d2), (.double d2)])) _
    refine XS.dcmpS X0.here hx rfl (hb hby d3_68) rfl (v := (0 : Int32)) (dcmpV_self nn_d2 _) ?_
    refine XS.ifNo X0.here hx rfl (hb hby d3_69) rfl ((if0 _ _).trans (teq (by decide)).2) ?_
    refine XS.iloadN X0.here hx rfl (hb hby d3_72) rfl ?_
    refine XS.iconst X0.here hx rfl (hb hby d3_73) ?_
    refine XS.icmpNo X0.here hx rfl (hb hby d3_74) rfl (flt (by decide)).1 ?_
    refine XS.aloadN X0.here hx rfl (hb hby d3_77) rfl rfl ?_
    refine XS.iconst X0.here hx rfl (hb hby d3_78) ?_
    refine st11 _ ?_
    show Steps p.tables e below (s₁.setTop (mkF m 80 #[.val (.ref u0), .val (.ref u1), .val (.int (4 : Int32))] [(.double d3)])) _
    refine XS.aloadN X0.here hx rfl (hb hby d3_80) rfl rfl ?_
    refine XS.iconst X0.here hx rfl (hb hby d3_81) ?_
    refine st12 _ ?_
    show Steps p.tables e below (s₁.setTop (mkF m 83 #[.val (.ref u0), .val (.ref u1), .val (.int (4 : Int32))] [(.double d3), (.double d3)])) _
    refine XS.dcmpS X0.here hx rfl (hb hby d3_83) rfl (v := (0 : Int32)) (dcmpV_self nn_d3 _) ?_
    refine XS.ifNo X0.here hx rfl (hb hby d3_84) rfl ((if0 _ _).trans (teq (by decide)).2) ?_
    refine XS.iloadN X0.here hx rfl (hb hby d3_87) rfl ?_
    refine XS.iconst X0.here hx rfl (hb hby d3_88) ?_
    refine XS.icmpYes X0.here hx rfl (pc0 := 89) (pc' := 102) rfl (hb hby d3_89) rfl (tlt (by decide)).1 (by decide) (by decide) ?_
    refine XS.iloadN X0.here hx rfl (hb hby d3_102) rfl ?_
    refine XS.bipush X0.here hx rfl (hb hby d3_103) ?_
    refine XS.icmpYes X0.here hx rfl (pc0 := 105) (pc' := 118) rfl (hb hby d3_105) rfl (tlt (by decide)).1 (by decide) (by decide) ?_
    refine XS.iloadN X0.here hx rfl (hb hby d3_118) rfl ?_
    refine XS.bipush X0.here hx rfl (hb hby d3_119) ?_
    refine XS.icmpYes X0.here hx rfl (pc0 := 121) (pc' := 136) rfl (hb hby d3_121) rfl (tlt (by decide)).1 (by decide) (by decide) ?_
    refine XS.iloadN X0.here hx rfl (hb hby d3_136) rfl ?_
    show Steps p.tables e below (s₁.setTop (mkF m 137 #[.val (.ref u0), .val (.ref u1), .val (.int (4 : Int32))] [(.int (4 : Int32))])) _
    refine XS.bipush X0.here hx rfl (hb hby d3_137) ?_
    refine XS.icmpYes X0.here hx rfl (pc0 := 139) (pc' := 154) rfl (hb hby d3_139) rfl (tlt (by decide)).1 (by decide) (by decide) ?_
    refine XS.iconst X0.here hx rfl (hb hby d3_154) ?_
    refine XS.goto X0.here hx rfl (pc0 := 155) (pc' := 159) rfl (hb hby d3_155) (by decide) (by decide) ?_
    show Steps p.tables e below (s₁.setTop (mkF m 159 #[.val (.ref u0), .val (.ref u1), .val (.int (4 : Int32))] [(.int (1 : Int32))])) _
    exact retN X0 hx (t := .boolean) Bd.returns (by simp) (hb hby d3_159) hr
  · show QS2 Z u0 u1 k_u0 k_u1 d0 d1 d2 d3 h0 n0 _ s₁.heap _
    rw [e0]
    exact ⟨rfl, N0, rfl⟩
theorem d3_92 : decode method_4_code 92 = .ok (.aload_n 0, 1) := by decide +kernel
theorem d3_93 : decode method_4_code 93 = .ok (.iconst 4, 1) := by decide +kernel
theorem d3_94 : decode method_4_code 94 = .ok (.daload, 1) := by decide +kernel
theorem d3_95 : decode method_4_code 95 = .ok (.aload_n 1, 1) := by decide +kernel
theorem d3_96 : decode method_4_code 96 = .ok (.iconst 4, 1) := by decide +kernel
theorem d3_97 : decode method_4_code 97 = .ok (.daload, 1) := by decide +kernel
theorem d3_98 : decode method_4_code 98 = .ok (.dcmp .l, 1) := by decide +kernel
theorem d3_99 : decode method_4_code 99 = .ok (.ifCond .ne 59, 3) := by decide +kernel
theorem d3_108 : decode method_4_code 108 = .ok (.aload_n 0, 1) := by decide +kernel
theorem d3_109 : decode method_4_code 109 = .ok (.iconst 5, 1) := by decide +kernel
theorem d3_110 : decode method_4_code 110 = .ok (.daload, 1) := by decide +kernel
theorem d3_111 : decode method_4_code 111 = .ok (.aload_n 1, 1) := by decide +kernel
theorem d3_112 : decode method_4_code 112 = .ok (.iconst 5, 1) := by decide +kernel
theorem d3_113 : decode method_4_code 113 = .ok (.daload, 1) := by decide +kernel
theorem d3_114 : decode method_4_code 114 = .ok (.dcmp .l, 1) := by decide +kernel
theorem d3_115 : decode method_4_code 115 = .ok (.ifCond .ne 43, 3) := by decide +kernel
theorem ef_S3 (m : MethodId) (u0 : Addr) (u1 : Addr) : entryFrame m #[(.ref u0), (.ref u1)] 3 = mkF m 0 #[.val (.ref u0), .val (.ref u1), .unset] [] := by first | (simp [entryFrame, mkF, argsToLocals, Value.category]; done) | rfl
def QS3 (Z : State) (u0 : Addr) (u1 : Addr) (k_u0 : ClassId) (k_u1 : ClassId) (d0 : UInt64) (d1 : UInt64) (d2 : UInt64) (d3 : UInt64) (d4 : UInt64) (d5 : UInt64) (h0 : Heap) (n0 : Nat) (v : Option Value) (h : Heap) (L : List Loc) : Prop := v = some (.int (1 : Int32)) ∧ Fr n0 L ∧ h = h0
set_option maxRecDepth 65536 in
set_option maxHeartbeats 40000000 in
theorem rmS3 (l : Launch) (Z : State) (a0 : Array Value) (hw : ∀ d ∈ tables_1, d.before a0 Z = true) (ws : List Jvm.Cond) (u0 : Addr) (u1 : Addr) (k_u0 : ClassId) (k_u1 : ClassId) (d0 : UInt64) (d1 : UInt64) (d2 : UInt64) (d3 : UInt64) (d4 : UInt64) (d5 : UInt64) (h0 : Heap) (n0 : Nat) (Z0 : n0 ≤ h0.size) (V_u0 : Arv Z h0 u0 k_u0 .double (6 : Int32) [(.double d0), (.double d1), (.double d2), (.double d3), (.double d4), (.double d5)] (.double (0 : UInt64))) (V_u1 : Arv Z h0 u1 k_u1 .double (6 : Int32) [(.double d0), (.double d1), (.double d2), (.double d3), (.double d4), (.double d5)] (.double (0 : UInt64))) (nn_d0 : Jvm.Free.Fl.NoNaN64 d0) (nn_d1 : Jvm.Free.Fl.NoNaN64 d1) (nn_d2 : Jvm.Free.Fl.NoNaN64 d2) (nn_d3 : Jvm.Free.Fl.NoNaN64 d3) (nn_d4 : Jvm.Free.Fl.NoNaN64 d4) (nn_d5 : Jvm.Free.Fl.NoNaN64 d5) :
    MetFree l (⟨"com/example/decorum/decorum/graphics/RasterizerClockwisePinLaw", "same", "([D[D)Z"⟩ : MethodName) (head1 (Jvm.Cond.code (⟨"com/example/decorum/decorum/graphics/RasterizerClockwisePinLaw", "same", "([D[D)Z"⟩ : MethodName) method_4_code 3 (some .boolean) :: ws) ({ frames := 0, cells := 0, slots := 0, locals := 0 } : Room)) (fun a U => a = #[(.ref u0), (.ref u1)] ∧ Z.Warmed39 U.vm ∧ U.heap = h0) (fun _ _ _ _ _ => True) (fun _ U o U' => ∃ v L, o = .returned v ∧ QS3 Z u0 u1 k_u0 k_u1 d0 d1 d2 d3 d4 d5 h0 n0 v U'.heap L ∧ FrameEnd U o U' L ({ frames := 0, cells := 0, slots := 0, locals := 0 } : Room).cells ({ frames := 0, cells := 0, slots := 0, locals := 0 } : Room).slots) := by
  refine MetFree.of_bodySF (plainFor_of_name pn_com_example_decorum_decorum_graphics_RasterizerClockwisePinLaw) hisR ?_
  intro p e s m args below meth c s₁ Bd hml0 hP hK
  obtain ⟨rfl, hZ, hh⟩ := hP
  have hx := Bd.exec
  have hby := Bd.bytes
  have hml : c.maxLocals = 3 := hml0
  have hown : s.vm.findClass "com/example/decorum/decorum/graphics/RasterizerClockwisePinLaw" = some m.cls := findClass_of_methodNamed Bd.named
  have hnm := (name_of_methodNamed Bd.named Bd.method).1
  have X0 : Stand p l e ({ frames := 0, cells := 0, slots := 0, locals := 0 } : Room) s m #[(.ref u0), (.ref u1)] below meth c s₁ [] 0 0 := Stand.of_body Bd
  have e0 : s₁.heap = h0 := by rw [← hh, Bd.state]; rfl
  have N0 := Fr.nil n0
  have pre0 : ∀ t, Steps p.tables e below (s₁.setTop (mkF m 0 #[.val (.ref u0), .val (.ref u1), .unset] [])) t → Steps p.tables e below (s₁.setTop (entryFrame m #[(.ref u0), (.ref u1)] 3)) t := fun t k => castTop (ef_S3 m u0 u1) k
  obtain ⟨cl1, Ar1, qa1, Sa1, Na1, Ha1, Ga1⟩ := id V_u0
  have st1 := X0.arraylength hx (by rw [e0]; exact Ar1.1) (State.isArrayOf_alike hZ.alike Ar1.2.1) (g := (mkF m 9 #[.val (.ref u0), .val (.ref u1), .unset] [(.ref u0)])) rfl rfl (hb hby d3_9)
  rw [len_of Sa1 Na1] at st1
  obtain ⟨cl2, Ar2, qa2, Sa2, Na2, Ha2, Ga2⟩ := id V_u1
  have st2 := X0.arraylength hx (by rw [e0]; exact Ar2.1) (State.isArrayOf_alike hZ.alike Ar2.2.1) (g := (mkF m 11 #[.val (.ref u0), .val (.ref u1), .unset] [(.ref u1), (.int (6 : Int32))])) rfl rfl (hb hby d3_11)
  rw [len_of Sa2 Na2] at st2
  have st3 := X0.arraylength hx (by rw [e0]; exact Ar1.1) (State.isArrayOf_alike hZ.alike Ar1.2.1) (g := (mkF m 16 #[.val (.ref u0), .val (.ref u1), .unset] [(.ref u0)])) rfl rfl (hb hby d3_16)
  rw [len_of Sa1 Na1] at st3
  have st4 := X0.arraylength hx (by rw [e0]; exact Ar1.1) (State.isArrayOf_alike hZ.alike Ar1.2.1) (g := (mkF m 25 #[.val (.ref u0), .val (.ref u1), .unset] [(.ref u0)])) rfl rfl (hb hby d3_25)
  rw [len_of Sa1 Na1] at st4
  have hi5 := inb_of (j := (0 : Int32)) Sa1 ⟨by decide, by decide⟩
  have st5 := X0.daload hx (j := (0 : Int32)) (v := (.double d0)) (by rw [e0]; exact Ar1.1) (State.isArrayOf_alike hZ.alike Ar1.2.1) Ar1.2.2 hi5 (Has.at Ha1 hi5 rfl) (g := (mkF m 34 #[.val (.ref u0), .val (.ref u1), .val (.int (6 : Int32))] [(.int (0 : Int32)), (.ref u0)])) rfl rfl (hb hby d3_34)
  have hi6 := inb_of (j := (0 : Int32)) Sa2 ⟨by decide, by decide⟩
  have st6 := X0.daload hx (j := (0 : Int32)) (v := (.double d0)) (by rw [e0]; exact Ar2.1) (State.isArrayOf_alike hZ.alike Ar2.2.1) Ar2.2.2 hi6 (Has.at Ha2 hi6 rfl) (g := (mkF m 37 #[.val (.ref u0), .val (.ref u1), .val (.int (6 : Int32))] [(.int (0 : Int32)), (.ref u1), (.double d0)])) rfl rfl (hb hby d3_37)
  have hi7 := inb_of (j := (1 : Int32)) Sa1 ⟨by decide, by decide⟩
  have st7 := X0.daload hx (j := (1 : Int32)) (v := (.double d1)) (by rw [e0]; exact Ar1.1) (State.isArrayOf_alike hZ.alike Ar1.2.1) Ar1.2.2 hi7 (Has.at Ha1 hi7 rfl) (g := (mkF m 49 #[.val (.ref u0), .val (.ref u1), .val (.int (6 : Int32))] [(.int (1 : Int32)), (.ref u0)])) rfl rfl (hb hby d3_49)
  have hi8 := inb_of (j := (1 : Int32)) Sa2 ⟨by decide, by decide⟩
  have st8 := X0.daload hx (j := (1 : Int32)) (v := (.double d1)) (by rw [e0]; exact Ar2.1) (State.isArrayOf_alike hZ.alike Ar2.2.1) Ar2.2.2 hi8 (Has.at Ha2 hi8 rfl) (g := (mkF m 52 #[.val (.ref u0), .val (.ref u1), .val (.int (6 : Int32))] [(.int (1 : Int32)), (.ref u1), (.double d1)])) rfl rfl (hb hby d3_52)
  have hi9 := inb_of (j := (2 : Int32)) Sa1 ⟨by decide, by decide⟩
  have st9 := X0.daload hx (j := (2 : Int32)) (v := (.double d2)) (by rw [e0]; exact Ar1.1) (State.isArrayOf_alike hZ.alike Ar1.2.1) Ar1.2.2 hi9 (Has.at Ha1 hi9 rfl) (g := (mkF m 64 #[.val (.ref u0), .val (.ref u1), .val (.int (6 : Int32))] [(.int (2 : Int32)), (.ref u0)])) rfl rfl (hb hby d3_64)
  have hi10 := inb_of (j := (2 : Int32)) Sa2 ⟨by decide, by decide⟩
  have st10 := X0.daload hx (j := (2 : Int32)) (v := (.double d2)) (by rw [e0]; exact Ar2.1) (State.isArrayOf_alike hZ.alike Ar2.2.1) Ar2.2.2 hi10 (Has.at Ha2 hi10 rfl) (g := (mkF m 67 #[.val (.ref u0), .val (.ref u1), .val (.int (6 : Int32))] [(.int (2 : Int32)), (.ref u1), (.double d2)])) rfl rfl (hb hby d3_67)
  have hi11 := inb_of (j := (3 : Int32)) Sa1 ⟨by decide, by decide⟩
  have st11 := X0.daload hx (j := (3 : Int32)) (v := (.double d3)) (by rw [e0]; exact Ar1.1) (State.isArrayOf_alike hZ.alike Ar1.2.1) Ar1.2.2 hi11 (Has.at Ha1 hi11 rfl) (g := (mkF m 79 #[.val (.ref u0), .val (.ref u1), .val (.int (6 : Int32))] [(.int (3 : Int32)), (.ref u0)])) rfl rfl (hb hby d3_79)
  have hi12 := inb_of (j := (3 : Int32)) Sa2 ⟨by decide, by decide⟩
  have st12 := X0.daload hx (j := (3 : Int32)) (v := (.double d3)) (by rw [e0]; exact Ar2.1) (State.isArrayOf_alike hZ.alike Ar2.2.1) Ar2.2.2 hi12 (Has.at Ha2 hi12 rfl) (g := (mkF m 82 #[.val (.ref u0), .val (.ref u1), .val (.int (6 : Int32))] [(.int (3 : Int32)), (.ref u1), (.double d3)])) rfl rfl (hb hby d3_82)
  have hi13 := inb_of (j := (4 : Int32)) Sa1 ⟨by decide, by decide⟩
  have st13 := X0.daload hx (j := (4 : Int32)) (v := (.double d4)) (by rw [e0]; exact Ar1.1) (State.isArrayOf_alike hZ.alike Ar1.2.1) Ar1.2.2 hi13 (Has.at Ha1 hi13 rfl) (g := (mkF m 94 #[.val (.ref u0), .val (.ref u1), .val (.int (6 : Int32))] [(.int (4 : Int32)), (.ref u0)])) rfl rfl (hb hby d3_94)
  have hi14 := inb_of (j := (4 : Int32)) Sa2 ⟨by decide, by decide⟩
  have st14 := X0.daload hx (j := (4 : Int32)) (v := (.double d4)) (by rw [e0]; exact Ar2.1) (State.isArrayOf_alike hZ.alike Ar2.2.1) Ar2.2.2 hi14 (Has.at Ha2 hi14 rfl) (g := (mkF m 97 #[.val (.ref u0), .val (.ref u1), .val (.int (6 : Int32))] [(.int (4 : Int32)), (.ref u1), (.double d4)])) rfl rfl (hb hby d3_97)
  have hi15 := inb_of (j := (5 : Int32)) Sa1 ⟨by decide, by decide⟩
  have st15 := X0.daload hx (j := (5 : Int32)) (v := (.double d5)) (by rw [e0]; exact Ar1.1) (State.isArrayOf_alike hZ.alike Ar1.2.1) Ar1.2.2 hi15 (Has.at Ha1 hi15 rfl) (g := (mkF m 110 #[.val (.ref u0), .val (.ref u1), .val (.int (6 : Int32))] [(.int (5 : Int32)), (.ref u0)])) rfl rfl (hb hby d3_110)
  have hi16 := inb_of (j := (5 : Int32)) Sa2 ⟨by decide, by decide⟩
  have st16 := X0.daload hx (j := (5 : Int32)) (v := (.double d5)) (by rw [e0]; exact Ar2.1) (State.isArrayOf_alike hZ.alike Ar2.2.1) Ar2.2.2 hi16 (Has.at Ha2 hi16 rfl) (g := (mkF m 113 #[.val (.ref u0), .val (.ref u1), .val (.int (6 : Int32))] [(.int (5 : Int32)), (.ref u1), (.double d5)])) rfl rfl (hb hby d3_113)
  obtain ⟨fs, hr, hrun, hended, hW, hsame⟩ := X0.leave (v := some (.int (1 : Int32))) (fun h => by rw [Bd.returns] at h; cases h)
  refine ⟨_, _, pre0 _ ?_, hrun, hended, _, _, rfl, ?_, ⟨_, rfl⟩, hW, hsame.mono (by decide) (by decide)⟩
  · show Steps p.tables e below (s₁.setTop (mkF m 0 #[.val (.ref u0), .val (.ref u1), .unset] [])) _
    refine XS.aloadN X0.here hx rfl (hb hby d3_0) rfl rfl ?_
    show Steps p.tables e below (s₁.setTop (mkF m 1 #[.val (.ref u0), .val (.ref u1), .unset] [(.ref u0)])) _
    refine XS.ifnullNo X0.here hx rfl (hb hby d3_1) rfl ?_
    show Steps p.tables e below (s₁.setTop (mkF m 4 #[.val (.ref u0), .val (.ref u1), .unset] [])) _
    refine XS.aloadN X0.here hx rfl (hb hby d3_4) rfl rfl ?_
    show Steps p.tables e below (s₁.setTop (mkF m 5 #[.val (.ref u0), .val (.ref u1), .unset] [(.ref u1)])) _
    refine XS.ifnullNo X0.here hx rfl (hb hby d3_5) rfl ?_
    show Steps p.tables e below (s₁.setTop (mkF m 8 #[.val (.ref u0), .val (.ref u1), .unset] [])) _
    refine XS.aloadN X0.here hx rfl (hb hby d3_8) rfl rfl ?_
    refine st1 _ ?_
    show Steps p.tables e below (s₁.setTop (mkF m 10 #[.val (.ref u0), .val (.ref u1), .unset] [(.int (6 : Int32))])) _
    refine XS.aloadN X0.here hx rfl (hb hby d3_10) rfl rfl ?_
    refine st2 _ ?_
    show Steps p.tables e below (s₁.setTop (mkF m 12 #[.val (.ref u0), .val (.ref u1), .unset] [(.int (6 : Int32)), (.int (6 : Int32))])) _
    refine XS.icmpNo X0.here hx rfl (hb hby d3_12) rfl (teq (by decide)).2 ?_
    refine XS.aloadN X0.here hx rfl (hb hby d3_15) rfl rfl ?_
    refine st3 _ ?_
    show Steps p.tables e below (s₁.setTop (mkF m 17 #[.val (.ref u0), .val (.ref u1), .unset] [(.int (6 : Int32))])) _
    refine XS.bipush X0.here hx rfl (hb hby d3_17) ?_
    refine XS.icmpYes X0.here hx rfl (pc0 := 19) (pc' := 24) rfl (hb hby d3_19) rfl (flt (by decide)).2.2.2 (by decide) (by decide) ?_
    refine XS.aloadN X0.here hx rfl (hb hby d3_24) rfl rfl ?_
    refine st4 _ ?_
    show Steps p.tables e below (s₁.setTop (mkF m 26 #[.val (.ref u0), .val (.ref u1), .unset] [(.int (6 : Int32))])) _
    refine XS.istoreN X0.here hx rfl (hb hby d3_26) rfl (l' := #[.val (.ref u0), .val (.ref u1), .val (.int (6 : Int32))]) rfl ?_
    refine XS.iloadN X0.here hx rfl (hb hby d3_27) rfl ?_
    refine XS.iconst X0.here hx rfl (hb hby d3_28) ?_
    refine XS.icmpNo X0.here hx rfl (hb hby d3_29) rfl (flt (by decide)).1 ?_
    refine XS.aloadN X0.here hx rfl (hb hby d3_32) rfl rfl ?_
    refine XS.iconst X0.here hx rfl (hb hby d3_33) ?_
    refine st5 _ ?_
    show Steps p.tables e below (s₁.setTop (mkF m 35 #[.val (.ref u0), .val (.ref u1), .val (.int (6 : Int32))] [(.double d0)])) _
    refine XS.aloadN X0.here hx rfl (hb hby d3_35) rfl rfl ?_
    refine XS.iconst X0.here hx rfl (hb hby d3_36) ?_
    refine st6 _ ?_
    show Steps p.tables e below (s₁.setTop (mkF m 38 #[.val (.ref u0), .val (.ref u1), .val (.int (6 : Int32))] [(.double d0), (.double d0)])) _
    refine XS.dcmpS X0.here hx rfl (hb hby d3_38) rfl (v := (0 : Int32)) (dcmpV_self nn_d0 _) ?_
    refine XS.ifNo X0.here hx rfl (hb hby d3_39) rfl ((if0 _ _).trans (teq (by decide)).2) ?_
    refine XS.iloadN X0.here hx rfl (hb hby d3_42) rfl ?_
    refine XS.iconst X0.here hx rfl (hb hby d3_43) ?_
    refine XS.icmpNo X0.here hx rfl (hb hby d3_44) rfl (flt (by decide)).1 ?_
    refine XS.aloadN X0.here hx rfl (hb hby d3_47) rfl rfl ?_
    refine XS.iconst X0.here hx rfl (hb hby d3_48) ?_
    refine st7 _ ?_
    show Steps p.tables e below (s₁.setTop (mkF m 50 #[.val (.ref u0), .val (.ref u1), .val (.int (6 : Int32))] [(.double d1)])) _
    refine XS.aloadN X0.here hx rfl (hb hby d3_50) rfl rfl ?_
    refine XS.iconst X0.here hx rfl (hb hby d3_51) ?_
    refine st8 _ ?_
    show Steps p.tables e below (s₁.setTop (mkF m 53 #[.val (.ref u0), .val (.ref u1), .val (.int (6 : Int32))] [(.double d1), (.double d1)])) _
    refine XS.dcmpS X0.here hx rfl (hb hby d3_53) rfl (v := (0 : Int32)) (dcmpV_self nn_d1 _) ?_
    refine XS.ifNo X0.here hx rfl (hb hby d3_54) rfl ((if0 _ _).trans (teq (by decide)).2) ?_
    refine XS.iloadN X0.here hx rfl (hb hby d3_57) rfl ?_
    refine XS.iconst X0.here hx rfl (hb hby d3_58) ?_
    refine XS.icmpNo X0.here hx rfl (hb hby d3_59) rfl (flt (by decide)).1 ?_
    refine XS.aloadN X0.here hx rfl (hb hby d3_62) rfl rfl ?_
    refine XS.iconst X0.here hx rfl (hb hby d3_63) ?_
    refine st9 _ ?_
    show Steps p.tables e below (s₁.setTop (mkF m 65 #[.val (.ref u0), .val (.ref u1), .val (.int (6 : Int32))] [(.double d2)])) _
    refine XS.aloadN X0.here hx rfl (hb hby d3_65) rfl rfl ?_
    refine XS.iconst X0.here hx rfl (hb hby d3_66) ?_
    refine st10 _ ?_
    show Steps p.tables e below (s₁.setTop (mkF m 68 #[.val (.ref u0), .val (.ref u1), .val (.int (6 : Int32))] [(.double d2), (.double d2)])) _
    refine XS.dcmpS X0.here hx rfl (hb hby d3_68) rfl (v := (0 : Int32)) (dcmpV_self nn_d2 _) ?_
    refine XS.ifNo X0.here hx rfl (hb hby d3_69) rfl ((if0 _ _).trans (teq (by decide)).2) ?_
    refine XS.iloadN X0.here hx rfl (hb hby d3_72) rfl ?_
    refine XS.iconst X0.here hx rfl (hb hby d3_73) ?_
    refine XS.icmpNo X0.here hx rfl (hb hby d3_74) rfl (flt (by decide)).1 ?_
    refine XS.aloadN X0.here hx rfl (hb hby d3_77) rfl rfl ?_
    refine XS.iconst X0.here hx rfl (hb hby d3_78) ?_
    refine st11 _ ?_
    show Steps p.tables e below (s₁.setTop (mkF m 80 #[.val (.ref u0), .val (.ref u1), .val (.int (6 : Int32))] [(.double d3)])) _
    refine XS.aloadN X0.here hx rfl (hb hby d3_80) rfl rfl ?_
    refine XS.iconst X0.here hx rfl (hb hby d3_81) ?_
    refine st12 _ ?_
    show Steps p.tables e below (s₁.setTop (mkF m 83 #[.val (.ref u0), .val (.ref u1), .val (.int (6 : Int32))] [(.double d3), (.double d3)])) _
    refine XS.dcmpS X0.here hx rfl (hb hby d3_83) rfl (v := (0 : Int32)) (dcmpV_self nn_d3 _) ?_
    refine XS.ifNo X0.here hx rfl (hb hby d3_84) rfl ((if0 _ _).trans (teq (by decide)).2) ?_
    refine XS.iloadN X0.here hx rfl (hb hby d3_87) rfl ?_
    refine XS.iconst X0.here hx rfl (hb hby d3_88) ?_
    refine XS.icmpNo X0.here hx rfl (hb hby d3_89) rfl (flt (by decide)).1 ?_
    refine XS.aloadN X0.here hx rfl (hb hby d3_92) rfl rfl ?_
    refine XS.iconst X0.here hx rfl (hb hby d3_93) ?_
    refine st13 _ ?_
    show Steps p.tables e below (s₁.setTop (mkF m 95 #[.val (.ref u0), .val (.ref u1), .val (.int (6 : Int32))] [(.double d4)])) _
    refine XS.aloadN X0.here hx rfl (hb hby d3_95) rfl rfl ?_
    refine XS.iconst X0.here hx rfl (hb hby d3_96) ?_
    refine st14 _ ?_
    show Steps p.tables e below (s₁.setTop (mkF m 98 #[.val (.ref u0), .val (.ref u1), .val (.int (6 : Int32))] [(.double d4), (.double d4)])) _
    refine XS.dcmpS X0.here hx rfl (hb hby d3_98) rfl (v := (0 : Int32)) (dcmpV_self nn_d4 _) ?_
    refine XS.ifNo X0.here hx rfl (hb hby d3_99) rfl ((if0 _ _).trans (teq (by decide)).2) ?_
    refine XS.iloadN X0.here hx rfl (hb hby d3_102) rfl ?_
    refine XS.bipush X0.here hx rfl (hb hby d3_103) ?_
    refine XS.icmpNo X0.here hx rfl (hb hby d3_105) rfl (flt (by decide)).1 ?_
    refine XS.aloadN X0.here hx rfl (hb hby d3_108) rfl rfl ?_
    refine XS.iconst X0.here hx rfl (hb hby d3_109) ?_
    refine st15 _ ?_
    show Steps p.tables e below (s₁.setTop (mkF m 111 #[.val (.ref u0), .val (.ref u1), .val (.int (6 : Int32))] [(.double d5)])) _
    refine XS.aloadN X0.here hx rfl (hb hby d3_111) rfl rfl ?_
    refine XS.iconst X0.here hx rfl (hb hby d3_112) ?_
    refine st16 _ ?_
    show Steps p.tables e below (s₁.setTop (mkF m 114 #[.val (.ref u0), .val (.ref u1), .val (.int (6 : Int32))] [(.double d5), (.double d5)])) _
    refine XS.dcmpS X0.here hx rfl (hb hby d3_114) rfl (v := (0 : Int32)) (dcmpV_self nn_d5 _) ?_
    refine XS.ifNo X0.here hx rfl (hb hby d3_115) rfl ((if0 _ _).trans (teq (by decide)).2) ?_
    refine XS.iloadN X0.here hx rfl (hb hby d3_118) rfl ?_
    refine XS.bipush X0.here hx rfl (hb hby d3_119) ?_
    refine XS.icmpYes X0.here hx rfl (pc0 := 121) (pc' := 136) rfl (hb hby d3_121) rfl (tlt (by decide)).1 (by decide) (by decide) ?_
    refine XS.iloadN X0.here hx rfl (hb hby d3_136) rfl ?_
    refine XS.bipush X0.here hx rfl (hb hby d3_137) ?_
    refine XS.icmpYes X0.here hx rfl (pc0 := 139) (pc' := 154) rfl (hb hby d3_139) rfl (tlt (by decide)).1 (by decide) (by decide) ?_
    refine XS.iconst X0.here hx rfl (hb hby d3_154) ?_
    refine XS.goto X0.here hx rfl (pc0 := 155) (pc' := 159) rfl (hb hby d3_155) (by decide) (by decide) ?_
    show Steps p.tables e below (s₁.setTop (mkF m 159 #[.val (.ref u0), .val (.ref u1), .val (.int (6 : Int32))] [(.int (1 : Int32))])) _
    exact retN X0 hx (t := .boolean) Bd.returns (by simp) (hb hby d3_159) hr
  · show QS3 Z u0 u1 k_u0 k_u1 d0 d1 d2 d3 d4 d5 h0 n0 _ s₁.heap _
    rw [e0]
    exact ⟨rfl, N0, rfl⟩
theorem d3_124 : decode method_4_code 124 = .ok (.aload_n 0, 1) := by decide +kernel
theorem d3_125 : decode method_4_code 125 = .ok (.bipush 6, 2) := by decide +kernel
theorem d3_127 : decode method_4_code 127 = .ok (.daload, 1) := by decide +kernel
theorem d3_128 : decode method_4_code 128 = .ok (.aload_n 1, 1) := by decide +kernel
theorem d3_129 : decode method_4_code 129 = .ok (.bipush 6, 2) := by decide +kernel
theorem d3_131 : decode method_4_code 131 = .ok (.daload, 1) := by decide +kernel
theorem d3_132 : decode method_4_code 132 = .ok (.dcmp .l, 1) := by decide +kernel
theorem d3_133 : decode method_4_code 133 = .ok (.ifCond .ne 25, 3) := by decide +kernel
theorem d3_142 : decode method_4_code 142 = .ok (.aload_n 0, 1) := by decide +kernel
theorem d3_143 : decode method_4_code 143 = .ok (.bipush 7, 2) := by decide +kernel
theorem d3_145 : decode method_4_code 145 = .ok (.daload, 1) := by decide +kernel
theorem d3_146 : decode method_4_code 146 = .ok (.aload_n 1, 1) := by decide +kernel
theorem d3_147 : decode method_4_code 147 = .ok (.bipush 7, 2) := by decide +kernel
theorem d3_149 : decode method_4_code 149 = .ok (.daload, 1) := by decide +kernel
theorem d3_150 : decode method_4_code 150 = .ok (.dcmp .l, 1) := by decide +kernel
theorem d3_151 : decode method_4_code 151 = .ok (.ifCond .ne 7, 3) := by decide +kernel
theorem ef_S4 (m : MethodId) (u0 : Addr) (u1 : Addr) : entryFrame m #[(.ref u0), (.ref u1)] 3 = mkF m 0 #[.val (.ref u0), .val (.ref u1), .unset] [] := by first | (simp [entryFrame, mkF, argsToLocals, Value.category]; done) | rfl
def QS4 (Z : State) (u0 : Addr) (u1 : Addr) (k_u0 : ClassId) (k_u1 : ClassId) (d0 : UInt64) (d1 : UInt64) (d2 : UInt64) (d3 : UInt64) (d4 : UInt64) (d5 : UInt64) (d6 : UInt64) (d7 : UInt64) (h0 : Heap) (n0 : Nat) (v : Option Value) (h : Heap) (L : List Loc) : Prop := v = some (.int (1 : Int32)) ∧ Fr n0 L ∧ h = h0
set_option maxRecDepth 65536 in
set_option maxHeartbeats 40000000 in
theorem rmS4 (l : Launch) (Z : State) (a0 : Array Value) (hw : ∀ d ∈ tables_1, d.before a0 Z = true) (ws : List Jvm.Cond) (u0 : Addr) (u1 : Addr) (k_u0 : ClassId) (k_u1 : ClassId) (d0 : UInt64) (d1 : UInt64) (d2 : UInt64) (d3 : UInt64) (d4 : UInt64) (d5 : UInt64) (d6 : UInt64) (d7 : UInt64) (h0 : Heap) (n0 : Nat) (Z0 : n0 ≤ h0.size) (V_u0 : Arv Z h0 u0 k_u0 .double (8 : Int32) [(.double d0), (.double d1), (.double d2), (.double d3), (.double d4), (.double d5), (.double d6), (.double d7)] (.double (0 : UInt64))) (V_u1 : Arv Z h0 u1 k_u1 .double (8 : Int32) [(.double d0), (.double d1), (.double d2), (.double d3), (.double d4), (.double d5), (.double d6), (.double d7)] (.double (0 : UInt64))) (nn_d0 : Jvm.Free.Fl.NoNaN64 d0) (nn_d1 : Jvm.Free.Fl.NoNaN64 d1) (nn_d2 : Jvm.Free.Fl.NoNaN64 d2) (nn_d3 : Jvm.Free.Fl.NoNaN64 d3) (nn_d4 : Jvm.Free.Fl.NoNaN64 d4) (nn_d5 : Jvm.Free.Fl.NoNaN64 d5) (nn_d6 : Jvm.Free.Fl.NoNaN64 d6) (nn_d7 : Jvm.Free.Fl.NoNaN64 d7) :
    MetFree l (⟨"com/example/decorum/decorum/graphics/RasterizerClockwisePinLaw", "same", "([D[D)Z"⟩ : MethodName) (head1 (Jvm.Cond.code (⟨"com/example/decorum/decorum/graphics/RasterizerClockwisePinLaw", "same", "([D[D)Z"⟩ : MethodName) method_4_code 3 (some .boolean) :: ws) ({ frames := 0, cells := 0, slots := 0, locals := 0 } : Room)) (fun a U => a = #[(.ref u0), (.ref u1)] ∧ Z.Warmed39 U.vm ∧ U.heap = h0) (fun _ _ _ _ _ => True) (fun _ U o U' => ∃ v L, o = .returned v ∧ QS4 Z u0 u1 k_u0 k_u1 d0 d1 d2 d3 d4 d5 d6 d7 h0 n0 v U'.heap L ∧ FrameEnd U o U' L ({ frames := 0, cells := 0, slots := 0, locals := 0 } : Room).cells ({ frames := 0, cells := 0, slots := 0, locals := 0 } : Room).slots) := by
  refine MetFree.of_bodySF (plainFor_of_name pn_com_example_decorum_decorum_graphics_RasterizerClockwisePinLaw) hisR ?_
  intro p e s m args below meth c s₁ Bd hml0 hP hK
  obtain ⟨rfl, hZ, hh⟩ := hP
  have hx := Bd.exec
  have hby := Bd.bytes
  have hml : c.maxLocals = 3 := hml0
  have hown : s.vm.findClass "com/example/decorum/decorum/graphics/RasterizerClockwisePinLaw" = some m.cls := findClass_of_methodNamed Bd.named
  have hnm := (name_of_methodNamed Bd.named Bd.method).1
  have X0 : Stand p l e ({ frames := 0, cells := 0, slots := 0, locals := 0 } : Room) s m #[(.ref u0), (.ref u1)] below meth c s₁ [] 0 0 := Stand.of_body Bd
  have e0 : s₁.heap = h0 := by rw [← hh, Bd.state]; rfl
  have N0 := Fr.nil n0
  have pre0 : ∀ t, Steps p.tables e below (s₁.setTop (mkF m 0 #[.val (.ref u0), .val (.ref u1), .unset] [])) t → Steps p.tables e below (s₁.setTop (entryFrame m #[(.ref u0), (.ref u1)] 3)) t := fun t k => castTop (ef_S4 m u0 u1) k
  obtain ⟨cl1, Ar1, qa1, Sa1, Na1, Ha1, Ga1⟩ := id V_u0
  have st1 := X0.arraylength hx (by rw [e0]; exact Ar1.1) (State.isArrayOf_alike hZ.alike Ar1.2.1) (g := (mkF m 9 #[.val (.ref u0), .val (.ref u1), .unset] [(.ref u0)])) rfl rfl (hb hby d3_9)
  rw [len_of Sa1 Na1] at st1
  obtain ⟨cl2, Ar2, qa2, Sa2, Na2, Ha2, Ga2⟩ := id V_u1
  have st2 := X0.arraylength hx (by rw [e0]; exact Ar2.1) (State.isArrayOf_alike hZ.alike Ar2.2.1) (g := (mkF m 11 #[.val (.ref u0), .val (.ref u1), .unset] [(.ref u1), (.int (8 : Int32))])) rfl rfl (hb hby d3_11)
  rw [len_of Sa2 Na2] at st2
  have st3 := X0.arraylength hx (by rw [e0]; exact Ar1.1) (State.isArrayOf_alike hZ.alike Ar1.2.1) (g := (mkF m 16 #[.val (.ref u0), .val (.ref u1), .unset] [(.ref u0)])) rfl rfl (hb hby d3_16)
  rw [len_of Sa1 Na1] at st3
  have st4 := X0.arraylength hx (by rw [e0]; exact Ar1.1) (State.isArrayOf_alike hZ.alike Ar1.2.1) (g := (mkF m 25 #[.val (.ref u0), .val (.ref u1), .unset] [(.ref u0)])) rfl rfl (hb hby d3_25)
  rw [len_of Sa1 Na1] at st4
  have hi5 := inb_of (j := (0 : Int32)) Sa1 ⟨by decide, by decide⟩
  have st5 := X0.daload hx (j := (0 : Int32)) (v := (.double d0)) (by rw [e0]; exact Ar1.1) (State.isArrayOf_alike hZ.alike Ar1.2.1) Ar1.2.2 hi5 (Has.at Ha1 hi5 rfl) (g := (mkF m 34 #[.val (.ref u0), .val (.ref u1), .val (.int (8 : Int32))] [(.int (0 : Int32)), (.ref u0)])) rfl rfl (hb hby d3_34)
  have hi6 := inb_of (j := (0 : Int32)) Sa2 ⟨by decide, by decide⟩
  have st6 := X0.daload hx (j := (0 : Int32)) (v := (.double d0)) (by rw [e0]; exact Ar2.1) (State.isArrayOf_alike hZ.alike Ar2.2.1) Ar2.2.2 hi6 (Has.at Ha2 hi6 rfl) (g := (mkF m 37 #[.val (.ref u0), .val (.ref u1), .val (.int (8 : Int32))] [(.int (0 : Int32)), (.ref u1), (.double d0)])) rfl rfl (hb hby d3_37)
  have hi7 := inb_of (j := (1 : Int32)) Sa1 ⟨by decide, by decide⟩
  have st7 := X0.daload hx (j := (1 : Int32)) (v := (.double d1)) (by rw [e0]; exact Ar1.1) (State.isArrayOf_alike hZ.alike Ar1.2.1) Ar1.2.2 hi7 (Has.at Ha1 hi7 rfl) (g := (mkF m 49 #[.val (.ref u0), .val (.ref u1), .val (.int (8 : Int32))] [(.int (1 : Int32)), (.ref u0)])) rfl rfl (hb hby d3_49)
  have hi8 := inb_of (j := (1 : Int32)) Sa2 ⟨by decide, by decide⟩
  have st8 := X0.daload hx (j := (1 : Int32)) (v := (.double d1)) (by rw [e0]; exact Ar2.1) (State.isArrayOf_alike hZ.alike Ar2.2.1) Ar2.2.2 hi8 (Has.at Ha2 hi8 rfl) (g := (mkF m 52 #[.val (.ref u0), .val (.ref u1), .val (.int (8 : Int32))] [(.int (1 : Int32)), (.ref u1), (.double d1)])) rfl rfl (hb hby d3_52)
  have hi9 := inb_of (j := (2 : Int32)) Sa1 ⟨by decide, by decide⟩
  have st9 := X0.daload hx (j := (2 : Int32)) (v := (.double d2)) (by rw [e0]; exact Ar1.1) (State.isArrayOf_alike hZ.alike Ar1.2.1) Ar1.2.2 hi9 (Has.at Ha1 hi9 rfl) (g := (mkF m 64 #[.val (.ref u0), .val (.ref u1), .val (.int (8 : Int32))] [(.int (2 : Int32)), (.ref u0)])) rfl rfl (hb hby d3_64)
  have hi10 := inb_of (j := (2 : Int32)) Sa2 ⟨by decide, by decide⟩
  have st10 := X0.daload hx (j := (2 : Int32)) (v := (.double d2)) (by rw [e0]; exact Ar2.1) (State.isArrayOf_alike hZ.alike Ar2.2.1) Ar2.2.2 hi10 (Has.at Ha2 hi10 rfl) (g := (mkF m 67 #[.val (.ref u0), .val (.ref u1), .val (.int (8 : Int32))] [(.int (2 : Int32)), (.ref u1), (.double d2)])) rfl rfl (hb hby d3_67)
  have hi11 := inb_of (j := (3 : Int32)) Sa1 ⟨by decide, by decide⟩
  have st11 := X0.daload hx (j := (3 : Int32)) (v := (.double d3)) (by rw [e0]; exact Ar1.1) (State.isArrayOf_alike hZ.alike Ar1.2.1) Ar1.2.2 hi11 (Has.at Ha1 hi11 rfl) (g := (mkF m 79 #[.val (.ref u0), .val (.ref u1), .val (.int (8 : Int32))] [(.int (3 : Int32)), (.ref u0)])) rfl rfl (hb hby d3_79)
  have hi12 := inb_of (j := (3 : Int32)) Sa2 ⟨by decide, by decide⟩
  have st12 := X0.daload hx (j := (3 : Int32)) (v := (.double d3)) (by rw [e0]; exact Ar2.1) (State.isArrayOf_alike hZ.alike Ar2.2.1) Ar2.2.2 hi12 (Has.at Ha2 hi12 rfl) (g := (mkF m 82 #[.val (.ref u0), .val (.ref u1), .val (.int (8 : Int32))] [(.int (3 : Int32)), (.ref u1), (.double d3)])) rfl rfl (hb hby d3_82)
  have hi13 := inb_of (j := (4 : Int32)) Sa1 ⟨by decide, by decide⟩
  have st13 := X0.daload hx (j := (4 : Int32)) (v := (.double d4)) (by rw [e0]; exact Ar1.1) (State.isArrayOf_alike hZ.alike Ar1.2.1) Ar1.2.2 hi13 (Has.at Ha1 hi13 rfl) (g := (mkF m 94 #[.val (.ref u0), .val (.ref u1), .val (.int (8 : Int32))] [(.int (4 : Int32)), (.ref u0)])) rfl rfl (hb hby d3_94)
  have hi14 := inb_of (j := (4 : Int32)) Sa2 ⟨by decide, by decide⟩
  have st14 := X0.daload hx (j := (4 : Int32)) (v := (.double d4)) (by rw [e0]; exact Ar2.1) (State.isArrayOf_alike hZ.alike Ar2.2.1) Ar2.2.2 hi14 (Has.at Ha2 hi14 rfl) (g := (mkF m 97 #[.val (.ref u0), .val (.ref u1), .val (.int (8 : Int32))] [(.int (4 : Int32)), (.ref u1), (.double d4)])) rfl rfl (hb hby d3_97)
  have hi15 := inb_of (j := (5 : Int32)) Sa1 ⟨by decide, by decide⟩
  have st15 := X0.daload hx (j := (5 : Int32)) (v := (.double d5)) (by rw [e0]; exact Ar1.1) (State.isArrayOf_alike hZ.alike Ar1.2.1) Ar1.2.2 hi15 (Has.at Ha1 hi15 rfl) (g := (mkF m 110 #[.val (.ref u0), .val (.ref u1), .val (.int (8 : Int32))] [(.int (5 : Int32)), (.ref u0)])) rfl rfl (hb hby d3_110)
  have hi16 := inb_of (j := (5 : Int32)) Sa2 ⟨by decide, by decide⟩
  have st16 := X0.daload hx (j := (5 : Int32)) (v := (.double d5)) (by rw [e0]; exact Ar2.1) (State.isArrayOf_alike hZ.alike Ar2.2.1) Ar2.2.2 hi16 (Has.at Ha2 hi16 rfl) (g := (mkF m 113 #[.val (.ref u0), .val (.ref u1), .val (.int (8 : Int32))] [(.int (5 : Int32)), (.ref u1), (.double d5)])) rfl rfl (hb hby d3_113)
  have hi17 := inb_of (j := (6 : Int32)) Sa1 ⟨by decide, by decide⟩
  have st17 := X0.daload hx (j := (6 : Int32)) (v := (.double d6)) (by rw [e0]; exact Ar1.1) (State.isArrayOf_alike hZ.alike Ar1.2.1) Ar1.2.2 hi17 (Has.at Ha1 hi17 rfl) (g := (mkF m 127 #[.val (.ref u0), .val (.ref u1), .val (.int (8 : Int32))] [(.int (6 : Int32)), (.ref u0)])) rfl rfl (hb hby d3_127)
  have hi18 := inb_of (j := (6 : Int32)) Sa2 ⟨by decide, by decide⟩
  have st18 := X0.daload hx (j := (6 : Int32)) (v := (.double d6)) (by rw [e0]; exact Ar2.1) (State.isArrayOf_alike hZ.alike Ar2.2.1) Ar2.2.2 hi18 (Has.at Ha2 hi18 rfl) (g := (mkF m 131 #[.val (.ref u0), .val (.ref u1), .val (.int (8 : Int32))] [(.int (6 : Int32)), (.ref u1), (.double d6)])) rfl rfl (hb hby d3_131)
  have hi19 := inb_of (j := (7 : Int32)) Sa1 ⟨by decide, by decide⟩
  have st19 := X0.daload hx (j := (7 : Int32)) (v := (.double d7)) (by rw [e0]; exact Ar1.1) (State.isArrayOf_alike hZ.alike Ar1.2.1) Ar1.2.2 hi19 (Has.at Ha1 hi19 rfl) (g := (mkF m 145 #[.val (.ref u0), .val (.ref u1), .val (.int (8 : Int32))] [(.int (7 : Int32)), (.ref u0)])) rfl rfl (hb hby d3_145)
  have hi20 := inb_of (j := (7 : Int32)) Sa2 ⟨by decide, by decide⟩
  have st20 := X0.daload hx (j := (7 : Int32)) (v := (.double d7)) (by rw [e0]; exact Ar2.1) (State.isArrayOf_alike hZ.alike Ar2.2.1) Ar2.2.2 hi20 (Has.at Ha2 hi20 rfl) (g := (mkF m 149 #[.val (.ref u0), .val (.ref u1), .val (.int (8 : Int32))] [(.int (7 : Int32)), (.ref u1), (.double d7)])) rfl rfl (hb hby d3_149)
  obtain ⟨fs, hr, hrun, hended, hW, hsame⟩ := X0.leave (v := some (.int (1 : Int32))) (fun h => by rw [Bd.returns] at h; cases h)
  refine ⟨_, _, pre0 _ ?_, hrun, hended, _, _, rfl, ?_, ⟨_, rfl⟩, hW, hsame.mono (by decide) (by decide)⟩
  · show Steps p.tables e below (s₁.setTop (mkF m 0 #[.val (.ref u0), .val (.ref u1), .unset] [])) _
    refine XS.aloadN X0.here hx rfl (hb hby d3_0) rfl rfl ?_
    show Steps p.tables e below (s₁.setTop (mkF m 1 #[.val (.ref u0), .val (.ref u1), .unset] [(.ref u0)])) _
    refine XS.ifnullNo X0.here hx rfl (hb hby d3_1) rfl ?_
    show Steps p.tables e below (s₁.setTop (mkF m 4 #[.val (.ref u0), .val (.ref u1), .unset] [])) _
    refine XS.aloadN X0.here hx rfl (hb hby d3_4) rfl rfl ?_
    show Steps p.tables e below (s₁.setTop (mkF m 5 #[.val (.ref u0), .val (.ref u1), .unset] [(.ref u1)])) _
    refine XS.ifnullNo X0.here hx rfl (hb hby d3_5) rfl ?_
    show Steps p.tables e below (s₁.setTop (mkF m 8 #[.val (.ref u0), .val (.ref u1), .unset] [])) _
    refine XS.aloadN X0.here hx rfl (hb hby d3_8) rfl rfl ?_
    refine st1 _ ?_
    show Steps p.tables e below (s₁.setTop (mkF m 10 #[.val (.ref u0), .val (.ref u1), .unset] [(.int (8 : Int32))])) _
    refine XS.aloadN X0.here hx rfl (hb hby d3_10) rfl rfl ?_
    refine st2 _ ?_
    show Steps p.tables e below (s₁.setTop (mkF m 12 #[.val (.ref u0), .val (.ref u1), .unset] [(.int (8 : Int32)), (.int (8 : Int32))])) _
    refine XS.icmpNo X0.here hx rfl (hb hby d3_12) rfl (teq (by decide)).2 ?_
    refine XS.aloadN X0.here hx rfl (hb hby d3_15) rfl rfl ?_
    refine st3 _ ?_
    show Steps p.tables e below (s₁.setTop (mkF m 17 #[.val (.ref u0), .val (.ref u1), .unset] [(.int (8 : Int32))])) _
    refine XS.bipush X0.here hx rfl (hb hby d3_17) ?_
    refine XS.icmpYes X0.here hx rfl (pc0 := 19) (pc' := 24) rfl (hb hby d3_19) rfl (flt (by decide)).2.2.2 (by decide) (by decide) ?_
    refine XS.aloadN X0.here hx rfl (hb hby d3_24) rfl rfl ?_
    refine st4 _ ?_
    show Steps p.tables e below (s₁.setTop (mkF m 26 #[.val (.ref u0), .val (.ref u1), .unset] [(.int (8 : Int32))])) _
    refine XS.istoreN X0.here hx rfl (hb hby d3_26) rfl (l' := #[.val (.ref u0), .val (.ref u1), .val (.int (8 : Int32))]) rfl ?_
    refine XS.iloadN X0.here hx rfl (hb hby d3_27) rfl ?_
    refine XS.iconst X0.here hx rfl (hb hby d3_28) ?_
    refine XS.icmpNo X0.here hx rfl (hb hby d3_29) rfl (flt (by decide)).1 ?_
    refine XS.aloadN X0.here hx rfl (hb hby d3_32) rfl rfl ?_
    refine XS.iconst X0.here hx rfl (hb hby d3_33) ?_
    refine st5 _ ?_
    show Steps p.tables e below (s₁.setTop (mkF m 35 #[.val (.ref u0), .val (.ref u1), .val (.int (8 : Int32))] [(.double d0)])) _
    refine XS.aloadN X0.here hx rfl (hb hby d3_35) rfl rfl ?_
    refine XS.iconst X0.here hx rfl (hb hby d3_36) ?_
    refine st6 _ ?_
    show Steps p.tables e below (s₁.setTop (mkF m 38 #[.val (.ref u0), .val (.ref u1), .val (.int (8 : Int32))] [(.double d0), (.double d0)])) _
    refine XS.dcmpS X0.here hx rfl (hb hby d3_38) rfl (v := (0 : Int32)) (dcmpV_self nn_d0 _) ?_
    refine XS.ifNo X0.here hx rfl (hb hby d3_39) rfl ((if0 _ _).trans (teq (by decide)).2) ?_
    refine XS.iloadN X0.here hx rfl (hb hby d3_42) rfl ?_
    refine XS.iconst X0.here hx rfl (hb hby d3_43) ?_
    refine XS.icmpNo X0.here hx rfl (hb hby d3_44) rfl (flt (by decide)).1 ?_
    refine XS.aloadN X0.here hx rfl (hb hby d3_47) rfl rfl ?_
    refine XS.iconst X0.here hx rfl (hb hby d3_48) ?_
    refine st7 _ ?_
    show Steps p.tables e below (s₁.setTop (mkF m 50 #[.val (.ref u0), .val (.ref u1), .val (.int (8 : Int32))] [(.double d1)])) _
    refine XS.aloadN X0.here hx rfl (hb hby d3_50) rfl rfl ?_
    refine XS.iconst X0.here hx rfl (hb hby d3_51) ?_
    refine st8 _ ?_
    show Steps p.tables e below (s₁.setTop (mkF m 53 #[.val (.ref u0), .val (.ref u1), .val (.int (8 : Int32))] [(.double d1), (.double d1)])) _
    refine XS.dcmpS X0.here hx rfl (hb hby d3_53) rfl (v := (0 : Int32)) (dcmpV_self nn_d1 _) ?_
    refine XS.ifNo X0.here hx rfl (hb hby d3_54) rfl ((if0 _ _).trans (teq (by decide)).2) ?_
    refine XS.iloadN X0.here hx rfl (hb hby d3_57) rfl ?_
    refine XS.iconst X0.here hx rfl (hb hby d3_58) ?_
    refine XS.icmpNo X0.here hx rfl (hb hby d3_59) rfl (flt (by decide)).1 ?_
    refine XS.aloadN X0.here hx rfl (hb hby d3_62) rfl rfl ?_
    refine XS.iconst X0.here hx rfl (hb hby d3_63) ?_
    refine st9 _ ?_
    show Steps p.tables e below (s₁.setTop (mkF m 65 #[.val (.ref u0), .val (.ref u1), .val (.int (8 : Int32))] [(.double d2)])) _
    refine XS.aloadN X0.here hx rfl (hb hby d3_65) rfl rfl ?_
    refine XS.iconst X0.here hx rfl (hb hby d3_66) ?_
    refine st10 _ ?_
    show Steps p.tables e below (s₁.setTop (mkF m 68 #[.val (.ref u0), .val (.ref u1), .val (.int (8 : Int32))] [(.double d2), (.double d2)])) _
    refine XS.dcmpS X0.here hx rfl (hb hby d3_68) rfl (v := (0 : Int32)) (dcmpV_self nn_d2 _) ?_
    refine XS.ifNo X0.here hx rfl (hb hby d3_69) rfl ((if0 _ _).trans (teq (by decide)).2) ?_
    refine XS.iloadN X0.here hx rfl (hb hby d3_72) rfl ?_
    refine XS.iconst X0.here hx rfl (hb hby d3_73) ?_
    refine XS.icmpNo X0.here hx rfl (hb hby d3_74) rfl (flt (by decide)).1 ?_
    refine XS.aloadN X0.here hx rfl (hb hby d3_77) rfl rfl ?_
    refine XS.iconst X0.here hx rfl (hb hby d3_78) ?_
    refine st11 _ ?_
    show Steps p.tables e below (s₁.setTop (mkF m 80 #[.val (.ref u0), .val (.ref u1), .val (.int (8 : Int32))] [(.double d3)])) _
    refine XS.aloadN X0.here hx rfl (hb hby d3_80) rfl rfl ?_
    refine XS.iconst X0.here hx rfl (hb hby d3_81) ?_
    refine st12 _ ?_
    show Steps p.tables e below (s₁.setTop (mkF m 83 #[.val (.ref u0), .val (.ref u1), .val (.int (8 : Int32))] [(.double d3), (.double d3)])) _
    refine XS.dcmpS X0.here hx rfl (hb hby d3_83) rfl (v := (0 : Int32)) (dcmpV_self nn_d3 _) ?_
    refine XS.ifNo X0.here hx rfl (hb hby d3_84) rfl ((if0 _ _).trans (teq (by decide)).2) ?_
    refine XS.iloadN X0.here hx rfl (hb hby d3_87) rfl ?_
    refine XS.iconst X0.here hx rfl (hb hby d3_88) ?_
    refine XS.icmpNo X0.here hx rfl (hb hby d3_89) rfl (flt (by decide)).1 ?_
    refine XS.aloadN X0.here hx rfl (hb hby d3_92) rfl rfl ?_
    refine XS.iconst X0.here hx rfl (hb hby d3_93) ?_
    refine st13 _ ?_
    show Steps p.tables e below (s₁.setTop (mkF m 95 #[.val (.ref u0), .val (.ref u1), .val (.int (8 : Int32))] [(.double d4)])) _
    refine XS.aloadN X0.here hx rfl (hb hby d3_95) rfl rfl ?_
    refine XS.iconst X0.here hx rfl (hb hby d3_96) ?_
    refine st14 _ ?_
    show Steps p.tables e below (s₁.setTop (mkF m 98 #[.val (.ref u0), .val (.ref u1), .val (.int (8 : Int32))] [(.double d4), (.double d4)])) _
    refine XS.dcmpS X0.here hx rfl (hb hby d3_98) rfl (v := (0 : Int32)) (dcmpV_self nn_d4 _) ?_
    refine XS.ifNo X0.here hx rfl (hb hby d3_99) rfl ((if0 _ _).trans (teq (by decide)).2) ?_
    refine XS.iloadN X0.here hx rfl (hb hby d3_102) rfl ?_
    refine XS.bipush X0.here hx rfl (hb hby d3_103) ?_
    refine XS.icmpNo X0.here hx rfl (hb hby d3_105) rfl (flt (by decide)).1 ?_
    refine XS.aloadN X0.here hx rfl (hb hby d3_108) rfl rfl ?_
    refine XS.iconst X0.here hx rfl (hb hby d3_109) ?_
    refine st15 _ ?_
    show Steps p.tables e below (s₁.setTop (mkF m 111 #[.val (.ref u0), .val (.ref u1), .val (.int (8 : Int32))] [(.double d5)])) _
    refine XS.aloadN X0.here hx rfl (hb hby d3_111) rfl rfl ?_
    refine XS.iconst X0.here hx rfl (hb hby d3_112) ?_
    refine st16 _ ?_
    show Steps p.tables e below (s₁.setTop (mkF m 114 #[.val (.ref u0), .val (.ref u1), .val (.int (8 : Int32))] [(.double d5), (.double d5)])) _
    refine XS.dcmpS X0.here hx rfl (hb hby d3_114) rfl (v := (0 : Int32)) (dcmpV_self nn_d5 _) ?_
    refine XS.ifNo X0.here hx rfl (hb hby d3_115) rfl ((if0 _ _).trans (teq (by decide)).2) ?_
    refine XS.iloadN X0.here hx rfl (hb hby d3_118) rfl ?_
    refine XS.bipush X0.here hx rfl (hb hby d3_119) ?_
    refine XS.icmpNo X0.here hx rfl (hb hby d3_121) rfl (flt (by decide)).1 ?_
    refine XS.aloadN X0.here hx rfl (hb hby d3_124) rfl rfl ?_
    refine XS.bipush X0.here hx rfl (hb hby d3_125) ?_
    refine st17 _ ?_
    show Steps p.tables e below (s₁.setTop (mkF m 128 #[.val (.ref u0), .val (.ref u1), .val (.int (8 : Int32))] [(.double d6)])) _
    refine XS.aloadN X0.here hx rfl (hb hby d3_128) rfl rfl ?_
    refine XS.bipush X0.here hx rfl (hb hby d3_129) ?_
    refine st18 _ ?_
    show Steps p.tables e below (s₁.setTop (mkF m 132 #[.val (.ref u0), .val (.ref u1), .val (.int (8 : Int32))] [(.double d6), (.double d6)])) _
    refine XS.dcmpS X0.here hx rfl (hb hby d3_132) rfl (v := (0 : Int32)) (dcmpV_self nn_d6 _) ?_
    refine XS.ifNo X0.here hx rfl (hb hby d3_133) rfl ((if0 _ _).trans (teq (by decide)).2) ?_
    refine XS.iloadN X0.here hx rfl (hb hby d3_136) rfl ?_
    refine XS.bipush X0.here hx rfl (hb hby d3_137) ?_
    refine XS.icmpNo X0.here hx rfl (hb hby d3_139) rfl (flt (by decide)).1 ?_
    refine XS.aloadN X0.here hx rfl (hb hby d3_142) rfl rfl ?_
    refine XS.bipush X0.here hx rfl (hb hby d3_143) ?_
    refine st19 _ ?_
    show Steps p.tables e below (s₁.setTop (mkF m 146 #[.val (.ref u0), .val (.ref u1), .val (.int (8 : Int32))] [(.double d7)])) _
    refine XS.aloadN X0.here hx rfl (hb hby d3_146) rfl rfl ?_
    refine XS.bipush X0.here hx rfl (hb hby d3_147) ?_
    refine st20 _ ?_
    show Steps p.tables e below (s₁.setTop (mkF m 150 #[.val (.ref u0), .val (.ref u1), .val (.int (8 : Int32))] [(.double d7), (.double d7)])) _
    refine XS.dcmpS X0.here hx rfl (hb hby d3_150) rfl (v := (0 : Int32)) (dcmpV_self nn_d7 _) ?_
    refine XS.ifNo X0.here hx rfl (hb hby d3_151) rfl ((if0 _ _).trans (teq (by decide)).2) ?_
    refine XS.iconst X0.here hx rfl (hb hby d3_154) ?_
    refine XS.goto X0.here hx rfl (pc0 := 155) (pc' := 159) rfl (hb hby d3_155) (by decide) (by decide) ?_
    show Steps p.tables e below (s₁.setTop (mkF m 159 #[.val (.ref u0), .val (.ref u1), .val (.int (8 : Int32))] [(.int (1 : Int32))])) _
    exact retN X0 hx (t := .boolean) Bd.returns (by simp) (hb hby d3_159) hr
  · show QS4 Z u0 u1 k_u0 k_u1 d0 d1 d2 d3 d4 d5 d6 d7 h0 n0 _ s₁.heap _
    rw [e0]
    exact ⟨rfl, N0, rfl⟩
theorem pd_0 : parseMethodDescriptor "(IJJJJJJJJ)[D" = some ⟨[.int, .long, .long, .long, .long, .long, .long, .long, .long], some (.array .double)⟩ := by decide +kernel
theorem pd_1 : parseMethodDescriptor "([D)[D" = some ⟨[(.array .double)], some (.array .double)⟩ := by decide +kernel
theorem pd_2 : parseMethodDescriptor "([D[D)Z" = some ⟨[(.array .double), (.array .double)], some .boolean⟩ := by decide +kernel
theorem ef_L0 (m : MethodId) (u0 : Int32) (u1 : Int32) (u2 : Int32) (u3 : Int32) (u4 : Int32) : entryFrame m #[(.int u0), (.int u1), (.int u2), (.int u3), (.int u4)] maxLocals = mkF m 0 #[.val (.int u0), .val (.int u1), .val (.int u2), .val (.int u3), .val (.int u4), .unset, .unset, .unset, .unset, .unset, .unset, .unset, .unset, .unset, .unset, .unset, .unset, .unset, .unset, .unset, .unset, .unset, .unset, .unset, .unset, .unset, .unset, .unset, .unset, .unset, .unset, .unset, .unset, .unset, .unset, .unset, .unset, .unset, .unset, .unset] [] := by first | (simp [entryFrame, mkF, argsToLocals, Value.category, maxLocals]; done) | rfl
def QL0 (Z : State) (u0 : Int32) (u1 : Int32) (u2 : Int32) (u3 : Int32) (u4 : Int32) (h0 : Heap) (n0 : Nat) (v : Option Value) (h : Heap) (L : List Loc) : Prop := v = some (.int (1 : Int32)) ∧ Fr n0 L
set_option maxRecDepth 65536 in
set_option maxHeartbeats 40000000 in
theorem rmL0 (l : Launch) (Z : State) (a0 : Array Value) (hw : ∀ d ∈ tables_1, d.before a0 Z = true) (ws : List Jvm.Cond) (u0 : Int32) (u1 : Int32) (u2 : Int32) (u3 : Int32) (u4 : Int32) (h0 : Heap) (n0 : Nat) (Z0 : n0 ≤ h0.size) (hk : (if (4 : Int32) < (u4 &&& (7 : Int32)) then (4 : Int32) else (u4 &&& (7 : Int32))) = (0 : Int32)) :
    MetFree l x (head1 (Jvm.Cond.code x code maxLocals ret :: ws) room_1) (fun a U => a = #[(.int u0), (.int u1), (.int u2), (.int u3), (.int u4)] ∧ Z.Warmed39 U.vm ∧ U.heap = h0) (fun _ _ _ _ _ => True) (fun _ U o U' => ∃ v L, o = .returned v ∧ QL0 Z u0 u1 u2 u3 u4 h0 n0 v U'.heap L ∧ FrameEnd U o U' L room_1.cells room_1.slots) := by
  refine MetFree.of_bodySF (plainFor_of_name pn_com_example_decorum_decorum_graphics_RasterizerClockwisePinLaw) hisR ?_
  intro p e s m args below meth c s₁ Bd hml0 hP hK
  obtain ⟨rfl, hZ, hh⟩ := hP
  have hx := Bd.exec
  have hby := Bd.bytes
  have hml : c.maxLocals = 40 := hml0
  have hown : s.vm.findClass "com/example/decorum/decorum/graphics/RasterizerClockwisePinLaw" = some m.cls := findClass_of_methodNamed Bd.named
  have hnm := (name_of_methodNamed Bd.named Bd.method).1
  have X0 : Stand p l e room_1 s m #[(.int u0), (.int u1), (.int u2), (.int u3), (.int u4)] below meth c s₁ [] 0 0 := Stand.of_body Bd
  have e0 : s₁.heap = h0 := by rw [← hh, Bd.state]; rfl
  have N0 := Fr.nil n0
  have pre0 : ∀ t, Steps p.tables e below (s₁.setTop (mkF m 0 #[.val (.int u0), .val (.int u1), .val (.int u2), .val (.int u3), .val (.int u4), .unset, .unset, .unset, .unset, .unset, .unset, .unset, .unset, .unset, .unset, .unset, .unset, .unset, .unset, .unset, .unset, .unset, .unset, .unset, .unset, .unset, .unset, .unset, .unset, .unset, .unset, .unset, .unset, .unset, .unset, .unset, .unset, .unset, .unset, .unset] [])) t → Steps p.tables e below (s₁.setTop (entryFrame m #[(.int u0), (.int u1), (.int u2), (.int u3), (.int u4)] maxLocals)) t := fun t k => castTop (ef_L0 m u0 u1 u2 u3 u4) k
  obtain ⟨mv1_0, me1_0⟩ : ∃ z : Int32, z = (if (4 : Int32) < (u4 &&& (7 : Int32)) then (4 : Int32) else (u4 &&& (7 : Int32))) := ⟨_, rfl⟩
  have st1 : ∀ target, Steps p.tables e below (s₁.setTop (mkF m 19 #[.val (.int u0), .val (.int u1), .val (.int u2), .val (.int u3), .val (.int u4), .val (.int (u4 &&& (7 : Int32))), .unset, .unset, .unset, .unset, .unset, .unset, .unset, .unset, .unset, .unset, .unset, .unset, .unset, .unset, .unset, .unset, .unset, .unset, .unset, .unset, .unset, .unset, .unset, .unset, .unset, .unset, .unset, .unset, .unset, .unset, .unset, .unset, .unset, .unset] [(.int mv1_0)])) target → Steps p.tables e below (s₁.setTop (mkF m 7 #[.val (.int u0), .val (.int u1), .val (.int u2), .val (.int u3), .val (.int u4), .val (.int (u4 &&& (7 : Int32))), .unset, .unset, .unset, .unset, .unset, .unset, .unset, .unset, .unset, .unset, .unset, .unset, .unset, .unset, .unset, .unset, .unset, .unset, .unset, .unset, .unset, .unset, .unset, .unset, .unset, .unset, .unset, .unset, .unset, .unset, .unset, .unset, .unset, .unset] [])) target := by
    intro target kt
    rw [me1_0] at kt
    by_cases hc10 : (4 : Int32) < (u4 &&& (7 : Int32))
    · simp only [if_pos hc10] at kt
      refine XS.iload X0.here hx rfl (hb hby at_7) rfl ?_
      refine XS.iconst X0.here hx rfl (hb hby at_9) ?_
      refine XS.icmpNo X0.here hx rfl (hb hby at_10) rfl (tlt hc10).2.2.2 ?_
      refine XS.iconst X0.here hx rfl (hb hby at_13) ?_
      refine XS.goto X0.here hx rfl (pc0 := 14) (pc' := 19) rfl (hb hby at_14) (by decide) (by decide) ?_
      exact kt
    · simp only [if_neg hc10] at kt
      refine XS.iload X0.here hx rfl (hb hby at_7) rfl ?_
      refine XS.iconst X0.here hx rfl (hb hby at_9) ?_
      refine XS.icmpYes X0.here hx rfl (pc0 := 10) (pc' := 17) rfl (hb hby at_10) rfl (flt hc10).2.2.2 (by decide) (by decide) ?_
      refine XS.iload X0.here hx rfl (hb hby at_17) rfl ?_
      exact kt
  obtain ⟨lx0, elx0⟩ : ∃ z : Int64, z = ((u0 >>> ((16 : Int32) &&& 31)).toInt64) := ⟨_, rfl⟩
  obtain ⟨ly0, ely0⟩ : ∃ z : Int64, z = ((u0.toInt16.toInt32).toInt64) := ⟨_, rfl⟩
  have st2 : ∀ target, Steps p.tables e below (s₁.setTop (mkF m 33 #[.val (.int u0), .val (.int u1), .val (.int u2), .val (.int u3), .val (.int u4), .val (.int (u4 &&& (7 : Int32))), .val (.int mv1_0), .val (.long lx0), .second, .val (.long ly0), .second, .unset, .unset, .unset, .unset, .unset, .unset, .unset, .unset, .unset, .unset, .unset, .unset, .unset, .unset, .unset, .unset, .unset, .unset, .unset, .unset, .unset, .unset, .unset, .unset, .unset, .unset, .unset, .unset, .unset] [])) target → Steps p.tables e below (s₁.setTop (mkF m 33 #[.val (.int u0), .val (.int u1), .val (.int u2), .val (.int u3), .val (.int u4), .val (.int (u4 &&& (7 : Int32))), .val (.int mv1_0), .val (.long ((u0 >>> ((16 : Int32) &&& 31)).toInt64)), .second, .val (.long ((u0.toInt16.toInt32).toInt64)), .second, .unset, .unset, .unset, .unset, .unset, .unset, .unset, .unset, .unset, .unset, .unset, .unset, .unset, .unset, .unset, .unset, .unset, .unset, .unset, .unset, .unset, .unset, .unset, .unset, .unset, .unset, .unset, .unset, .unset] [])) target := by intro target kt; rw [elx0, ely0] at kt; exact kt
  obtain ⟨lx1, elx1⟩ : ∃ z : Int64, z = ((u1 >>> ((16 : Int32) &&& 31)).toInt64) := ⟨_, rfl⟩
  obtain ⟨ly1, ely1⟩ : ∃ z : Int64, z = ((u1.toInt16.toInt32).toInt64) := ⟨_, rfl⟩
  have st3 : ∀ target, Steps p.tables e below (s₁.setTop (mkF m 45 #[.val (.int u0), .val (.int u1), .val (.int u2), .val (.int u3), .val (.int u4), .val (.int (u4 &&& (7 : Int32))), .val (.int mv1_0), .val (.long lx0), .second, .val (.long ly0), .second, .val (.long lx1), .second, .val (.long ly1), .second, .unset, .unset, .unset, .unset, .unset, .unset, .unset, .unset, .unset, .unset, .unset, .unset, .unset, .unset, .unset, .unset, .unset, .unset, .unset, .unset, .unset, .unset, .unset, .unset, .unset] [])) target → Steps p.tables e below (s₁.setTop (mkF m 45 #[.val (.int u0), .val (.int u1), .val (.int u2), .val (.int u3), .val (.int u4), .val (.int (u4 &&& (7 : Int32))), .val (.int mv1_0), .val (.long lx0), .second, .val (.long ly0), .second, .val (.long ((u1 >>> ((16 : Int32) &&& 31)).toInt64)), .second, .val (.long ((u1.toInt16.toInt32).toInt64)), .second, .unset, .unset, .unset, .unset, .unset, .unset, .unset, .unset, .unset, .unset, .unset, .unset, .unset, .unset, .unset, .unset, .unset, .unset, .unset, .unset, .unset, .unset, .unset, .unset, .unset] [])) target := by intro target kt; rw [elx1, ely1] at kt; exact kt
  obtain ⟨lx2, elx2⟩ : ∃ z : Int64, z = ((u2 >>> ((16 : Int32) &&& 31)).toInt64) := ⟨_, rfl⟩
  obtain ⟨ly2, ely2⟩ : ∃ z : Int64, z = ((u2.toInt16.toInt32).toInt64) := ⟨_, rfl⟩
  have st4 : ∀ target, Steps p.tables e below (s₁.setTop (mkF m 57 #[.val (.int u0), .val (.int u1), .val (.int u2), .val (.int u3), .val (.int u4), .val (.int (u4 &&& (7 : Int32))), .val (.int mv1_0), .val (.long lx0), .second, .val (.long ly0), .second, .val (.long lx1), .second, .val (.long ly1), .second, .val (.long lx2), .second, .val (.long ly2), .second, .unset, .unset, .unset, .unset, .unset, .unset, .unset, .unset, .unset, .unset, .unset, .unset, .unset, .unset, .unset, .unset, .unset, .unset, .unset, .unset, .unset] [])) target → Steps p.tables e below (s₁.setTop (mkF m 57 #[.val (.int u0), .val (.int u1), .val (.int u2), .val (.int u3), .val (.int u4), .val (.int (u4 &&& (7 : Int32))), .val (.int mv1_0), .val (.long lx0), .second, .val (.long ly0), .second, .val (.long lx1), .second, .val (.long ly1), .second, .val (.long ((u2 >>> ((16 : Int32) &&& 31)).toInt64)), .second, .val (.long ((u2.toInt16.toInt32).toInt64)), .second, .unset, .unset, .unset, .unset, .unset, .unset, .unset, .unset, .unset, .unset, .unset, .unset, .unset, .unset, .unset, .unset, .unset, .unset, .unset, .unset, .unset] [])) target := by intro target kt; rw [elx2, ely2] at kt; exact kt
  obtain ⟨lx3, elx3⟩ : ∃ z : Int64, z = ((u3 >>> ((16 : Int32) &&& 31)).toInt64) := ⟨_, rfl⟩
  obtain ⟨ly3, ely3⟩ : ∃ z : Int64, z = ((u3.toInt16.toInt32).toInt64) := ⟨_, rfl⟩
  have st5 : ∀ target, Steps p.tables e below (s₁.setTop (mkF m 69 #[.val (.int u0), .val (.int u1), .val (.int u2), .val (.int u3), .val (.int u4), .val (.int (u4 &&& (7 : Int32))), .val (.int mv1_0), .val (.long lx0), .second, .val (.long ly0), .second, .val (.long lx1), .second, .val (.long ly1), .second, .val (.long lx2), .second, .val (.long ly2), .second, .val (.long lx3), .second, .val (.long ly3), .second, .unset, .unset, .unset, .unset, .unset, .unset, .unset, .unset, .unset, .unset, .unset, .unset, .unset, .unset, .unset, .unset, .unset] [])) target → Steps p.tables e below (s₁.setTop (mkF m 69 #[.val (.int u0), .val (.int u1), .val (.int u2), .val (.int u3), .val (.int u4), .val (.int (u4 &&& (7 : Int32))), .val (.int mv1_0), .val (.long lx0), .second, .val (.long ly0), .second, .val (.long lx1), .second, .val (.long ly1), .second, .val (.long lx2), .second, .val (.long ly2), .second, .val (.long ((u3 >>> ((16 : Int32) &&& 31)).toInt64)), .second, .val (.long ((u3.toInt16.toInt32).toInt64)), .second, .unset, .unset, .unset, .unset, .unset, .unset, .unset, .unset, .unset, .unset, .unset, .unset, .unset, .unset, .unset, .unset, .unset] [])) target := by intro target kt; rw [elx3, ely3] at kt; exact kt
  obtain ⟨nk0, enk0⟩ : ∃ z : Int32, z = (u4 &&& (7 : Int32)) := ⟨_, rfl⟩
  obtain ⟨nk, enk⟩ : ∃ z : Int32, z = mv1_0 := ⟨_, rfl⟩
  have st6 : ∀ target, Steps p.tables e below (s₁.setTop (mkF m 69 #[.val (.int u0), .val (.int u1), .val (.int u2), .val (.int u3), .val (.int u4), .val (.int nk0), .val (.int nk), .val (.long lx0), .second, .val (.long ly0), .second, .val (.long lx1), .second, .val (.long ly1), .second, .val (.long lx2), .second, .val (.long ly2), .second, .val (.long lx3), .second, .val (.long ly3), .second, .unset, .unset, .unset, .unset, .unset, .unset, .unset, .unset, .unset, .unset, .unset, .unset, .unset, .unset, .unset, .unset, .unset] [])) target → Steps p.tables e below (s₁.setTop (mkF m 69 #[.val (.int u0), .val (.int u1), .val (.int u2), .val (.int u3), .val (.int u4), .val (.int (u4 &&& (7 : Int32))), .val (.int mv1_0), .val (.long lx0), .second, .val (.long ly0), .second, .val (.long lx1), .second, .val (.long ly1), .second, .val (.long lx2), .second, .val (.long ly2), .second, .val (.long lx3), .second, .val (.long ly3), .second, .unset, .unset, .unset, .unset, .unset, .unset, .unset, .unset, .unset, .unset, .unset, .unset, .unset, .unset, .unset, .unset, .unset] [])) target := by intro target kt; rw [enk, enk0] at kt; exact kt
  have hnk : nk = (0 : Int32) := enk.trans (me1_0.trans hk)
  obtain ⟨xda0, Lx0⟩ : ∃ i, LI i 32768 lx0 := ⟨_, elx0 ▸ LI.shr u0⟩
  obtain ⟨da0, eda0⟩ : ∃ z, z = FP.l2d lx0 := ⟨_, rfl⟩
  have Dda0 := LI.d Lx0 eda0 (by decide)
  obtain ⟨xdq0, Ly0⟩ : ∃ i, LI i 32768 ly0 := ⟨_, ely0 ▸ LI.i2s u0⟩
  obtain ⟨dq0, edq0⟩ : ∃ z, z = FP.l2d ly0 := ⟨_, rfl⟩
  have Ddq0 := LI.d Ly0 edq0 (by decide)
  obtain ⟨xda1, Lx1⟩ : ∃ i, LI i 32768 lx1 := ⟨_, elx1 ▸ LI.shr u1⟩
  obtain ⟨da1, eda1⟩ : ∃ z, z = FP.l2d lx1 := ⟨_, rfl⟩
  have Dda1 := LI.d Lx1 eda1 (by decide)
  obtain ⟨xdq1, Ly1⟩ : ∃ i, LI i 32768 ly1 := ⟨_, ely1 ▸ LI.i2s u1⟩
  obtain ⟨dq1, edq1⟩ : ∃ z, z = FP.l2d ly1 := ⟨_, rfl⟩
  have Ddq1 := LI.d Ly1 edq1 (by decide)
  obtain ⟨xda2, Lx2⟩ : ∃ i, LI i 32768 lx2 := ⟨_, elx2 ▸ LI.shr u2⟩
  obtain ⟨da2, eda2⟩ : ∃ z, z = FP.l2d lx2 := ⟨_, rfl⟩
  have Dda2 := LI.d Lx2 eda2 (by decide)
  obtain ⟨xdq2, Ly2⟩ : ∃ i, LI i 32768 ly2 := ⟨_, ely2 ▸ LI.i2s u2⟩
  obtain ⟨dq2, edq2⟩ : ∃ z, z = FP.l2d ly2 := ⟨_, rfl⟩
  have Ddq2 := LI.d Ly2 edq2 (by decide)
  obtain ⟨xda3, Lx3⟩ : ∃ i, LI i 32768 lx3 := ⟨_, elx3 ▸ LI.shr u3⟩
  obtain ⟨da3, eda3⟩ : ∃ z, z = FP.l2d lx3 := ⟨_, rfl⟩
  have Dda3 := LI.d Lx3 eda3 (by decide)
  obtain ⟨xdq3, Ly3⟩ : ∃ i, LI i 32768 ly3 := ⟨_, ely3 ▸ LI.i2s u3⟩
  obtain ⟨dq3, edq3⟩ : ∃ z, z = FP.l2d ly3 := ⟨_, rfl⟩
  have Ddq3 := LI.d Ly3 edq3 (by decide)
  have hB : ¬ ((0 : Int) < 0) := by omega
  obtain ⟨_, _, ⟨T7, L7, k7, n7⟩, -, X7, ⟨Lc7, hQ7, l7, y7, z7⟩, st7⟩ := Jvm.LawKit.callS X0 hx (y := (⟨"com/example/decorum/decorum/graphics/RasterizerClockwisePinLaw", "build", "(IJJJJJJJJ)[D"⟩ : MethodName)) hown (mvT hZ (hw _ (List.mem_of_getElem? (i := 0) rfl))) (mvT hZ (hw _ (List.mem_of_getElem? (i := 1) rfl))) (mvT hZ (hw _ (List.mem_of_getElem? (i := 2) rfl))) (mvT hZ (hw _ (List.mem_of_getElem? (i := 3) rfl))) (by decide) (backOf (W := 0) (rmB0 l Z a0 hw [] nk lx0 ly0 lx1 ly1 lx2 ly2 lx3 ly3 h0 n0 Z0 hnk) hZ (hw _ (List.mem_of_getElem? (i := 3) rfl)) (hw _ (List.mem_of_getElem? (i := 2) rfl)) (by decide) (by decide)) (g := (mkF m 87 #[.val (.int u0), .val (.int u1), .val (.int u2), .val (.int u3), .val (.int u4), .val (.int nk0), .val (.int nk), .val (.long lx0), .second, .val (.long ly0), .second, .val (.long lx1), .second, .val (.long ly1), .second, .val (.long lx2), .second, .val (.long ly2), .second, .val (.long lx3), .second, .val (.long ly3), .second, .unset, .unset, .unset, .unset, .unset, .unset, .unset, .unset, .unset, .unset, .unset, .unset, .unset, .unset, .unset, .unset, .unset] [(.long ly3), (.long lx3), (.long ly2), (.long lx2), (.long ly1), (.long lx1), (.long ly0), (.long lx0), (.int nk)])) rfl (by rw [hml]; rfl) (argsL := [(.int nk), (.long lx0), (.long ly0), (.long lx1), (.long ly1), (.long lx2), (.long ly2), (.long lx3), (.long ly3)]) (rest := []) (lenOf pd_0 rfl) rfl (by show 2 * 0 + _ ≤ _; exact Nat.le_of_eq rfl) (hb hby at_87) (fun _ _ => ⟨rfl, e0, (by decide : 0 + 1 ≤ _), (by decide : 0 + 0 ≤ _)⟩)
  dsimp only [Pt.U, Pt.locs, Pt.cells, Pt.slots] at X7 l7 y7 z7 st7 hQ7
  replace y7 : k7 = 1 := y7
  replace z7 : n7 = 0 := z7
  rw [y7, z7] at X7
  obtain ⟨hv7, N7q, K7, kk7, V7⟩ := hQ7
  obtain ⟨b7, g7⟩ : ∃ z, z = h0.size := ⟨_, rfl⟩
  rw [← g7] at hv7 V7
  subst hv7
  have g_b7 : n0 ≤ b7 := Nat.le_trans Z0 (Nat.le_of_eq g7.symm)
  have sz_b7 : h0.size ≤ b7 := Nat.le_trans (Keep.refl h0 []).1 (Nat.le_of_eq g7.symm)
  have N7 : Fr n0 L7 := l7 ▸ Fr.app N0 N7q
  have Z7 : n0 ≤ T7.heap.size := Nat.le_trans Z0 K7.1
  have KK7 := (Keep.refl h0 []).trans K7 all0
  obtain ⟨_, _, ⟨T8, L8, k8, n8⟩, -, X8, ⟨Lc8, hQ8, l8, y8, z8⟩, st8⟩ := Jvm.LawKit.callS X7 hx (y := (⟨"com/example/decorum/decorum/graphics/RasterizerClockwisePinLaw", "build", "(IJJJJJJJJ)[D"⟩ : MethodName)) hown (mvT hZ (hw _ (List.mem_of_getElem? (i := 0) rfl))) (mvT hZ (hw _ (List.mem_of_getElem? (i := 1) rfl))) (mvT hZ (hw _ (List.mem_of_getElem? (i := 2) rfl))) (mvT hZ (hw _ (List.mem_of_getElem? (i := 3) rfl))) (by decide) (backOf (W := 0) (rmB0 l Z a0 hw [] nk lx0 ly0 lx1 ly1 lx2 ly2 lx3 ly3 T7.heap n0 Z7 hnk) hZ (hw _ (List.mem_of_getElem? (i := 3) rfl)) (hw _ (List.mem_of_getElem? (i := 2) rfl)) (by decide) (by decide)) (g := (mkF m 110 #[.val (.int u0), .val (.int u1), .val (.int u2), .val (.int u3), .val (.int u4), .val (.int nk0), .val (.int nk), .val (.long lx0), .second, .val (.long ly0), .second, .val (.long lx1), .second, .val (.long ly1), .second, .val (.long lx2), .second, .val (.long ly2), .second, .val (.long lx3), .second, .val (.long ly3), .second, .val (.ref b7), .unset, .unset, .unset, .unset, .unset, .unset, .unset, .unset, .unset, .unset, .unset, .unset, .unset, .unset, .unset, .unset] [(.long ly3), (.long lx3), (.long ly2), (.long lx2), (.long ly1), (.long lx1), (.long ly0), (.long lx0), (.int nk)])) rfl (by rw [hml]; rfl) (argsL := [(.int nk), (.long lx0), (.long ly0), (.long lx1), (.long ly1), (.long lx2), (.long ly2), (.long lx3), (.long ly3)]) (rest := []) (lenOf pd_0 rfl) rfl (by show 2 * 0 + _ ≤ _; exact Nat.le_of_eq rfl) (hb hby at_110) (fun _ _ => ⟨rfl, rfl, (by decide : 1 + 1 ≤ _), (by decide : 0 + 0 ≤ _)⟩)
  dsimp only [Pt.U, Pt.locs, Pt.cells, Pt.slots] at X8 l8 y8 z8 st8 hQ8
  replace y8 : k8 = 2 := y8
  replace z8 : n8 = 0 := z8
  rw [y8, z8] at X8
  obtain ⟨hv8, N8q, K8, kk8, V8⟩ := hQ8
  obtain ⟨b8, g8⟩ : ∃ z, z = T7.heap.size := ⟨_, rfl⟩
  rw [← g8] at hv8 V8
  subst hv8
  have g_b8 : n0 ≤ b8 := Nat.le_trans Z7 (Nat.le_of_eq g8.symm)
  have sz_b8 : h0.size ≤ b8 := Nat.le_trans KK7.1 (Nat.le_of_eq g8.symm)
  have N8 : Fr n0 L8 := l8 ▸ Fr.app N7 N8q
  have Z8 : n0 ≤ T8.heap.size := Nat.le_trans Z7 K8.1
  have KK8 := KK7.trans K8 all0
  obtain ⟨_, _, ⟨T9, L9, k9, n9⟩, -, X9, ⟨Lc9, hQ9, l9, y9, z9⟩, st9⟩ := Jvm.LawKit.callS X8 hx (y := (⟨"com/example/decorum/decorum/graphics/RasterizerClockwisePinLaw", "build", "(IJJJJJJJJ)[D"⟩ : MethodName)) hown (mvT hZ (hw _ (List.mem_of_getElem? (i := 0) rfl))) (mvT hZ (hw _ (List.mem_of_getElem? (i := 1) rfl))) (mvT hZ (hw _ (List.mem_of_getElem? (i := 2) rfl))) (mvT hZ (hw _ (List.mem_of_getElem? (i := 3) rfl))) (by decide) (backOf (W := 0) (rmB0 l Z a0 hw [] nk lx2 ly2 lx1 ly1 lx0 ly0 (0 : Int64) (0 : Int64) T8.heap n0 Z8 hnk) hZ (hw _ (List.mem_of_getElem? (i := 3) rfl)) (hw _ (List.mem_of_getElem? (i := 2) rfl)) (by decide) (by decide)) (g := (mkF m 160 #[.val (.int u0), .val (.int u1), .val (.int u2), .val (.int u3), .val (.int u4), .val (.int nk0), .val (.int nk), .val (.long lx0), .second, .val (.long ly0), .second, .val (.long lx1), .second, .val (.long ly1), .second, .val (.long lx2), .second, .val (.long ly2), .second, .val (.long lx3), .second, .val (.long ly3), .second, .val (.ref b7), .val (.ref b8), .unset, .unset, .unset, .unset, .unset, .unset, .unset, .unset, .unset, .unset, .unset, .unset, .unset, .unset, .unset] [(.long (0 : Int64)), (.long (0 : Int64)), (.long ly0), (.long lx0), (.long ly1), (.long lx1), (.long ly2), (.long lx2), (.int nk)])) rfl (by rw [hml]; rfl) (argsL := [(.int nk), (.long lx2), (.long ly2), (.long lx1), (.long ly1), (.long lx0), (.long ly0), (.long (0 : Int64)), (.long (0 : Int64))]) (rest := []) (lenOf pd_0 rfl) rfl (by show 2 * 0 + _ ≤ _; exact Nat.le_of_eq rfl) (hb hby at_160) (fun _ _ => ⟨rfl, rfl, (by decide : 2 + 1 ≤ _), (by decide : 0 + 0 ≤ _)⟩)
  dsimp only [Pt.U, Pt.locs, Pt.cells, Pt.slots] at X9 l9 y9 z9 st9 hQ9
  replace y9 : k9 = 3 := y9
  replace z9 : n9 = 0 := z9
  rw [y9, z9] at X9
  obtain ⟨hv9, N9q, K9, kk9, V9⟩ := hQ9
  obtain ⟨b9, g9⟩ : ∃ z, z = T8.heap.size := ⟨_, rfl⟩
  rw [← g9] at hv9 V9
  subst hv9
  have g_b9 : n0 ≤ b9 := Nat.le_trans Z8 (Nat.le_of_eq g9.symm)
  have sz_b9 : h0.size ≤ b9 := Nat.le_trans KK8.1 (Nat.le_of_eq g9.symm)
  have N9 : Fr n0 L9 := l9 ▸ Fr.app N8 N9q
  have Z9 : n0 ≤ T9.heap.size := Nat.le_trans Z8 K9.1
  have KK9 := KK8.trans K9 all0
  obtain ⟨c26, ec26⟩ : ∃ z : Int64, z = ((lx0 * ly1) - (lx1 * ly0)) := ⟨_, rfl⟩
  obtain ⟨c28, ec28⟩ : ∃ z : Int64, z = ((lx1 * ly2) - (lx2 * ly1)) := ⟨_, rfl⟩
  obtain ⟨c30, ec30⟩ : ∃ z : Int64, z = ((lx2 * ly0) - (lx0 * ly2)) := ⟨_, rfl⟩
  obtain ⟨c32, ec32⟩ : ∃ z : Int64, z = ((lx2 * ly3) - (lx3 * ly2)) := ⟨_, rfl⟩
  obtain ⟨c34, ec34⟩ : ∃ z : Int64, z = ((lx3 * ly0) - (lx0 * ly3)) := ⟨_, rfl⟩
  have st10 : ∀ target, Steps p.tables e below (T9.setTop (mkF m 230 #[.val (.int u0), .val (.int u1), .val (.int u2), .val (.int u3), .val (.int u4), .val (.int nk0), .val (.int nk), .val (.long lx0), .second, .val (.long ly0), .second, .val (.long lx1), .second, .val (.long ly1), .second, .val (.long lx2), .second, .val (.long ly2), .second, .val (.long lx3), .second, .val (.long ly3), .second, .val (.ref b7), .val (.ref b8), .val (.ref b9), .val (.long c26), .second, .val (.long c28), .second, .val (.long c30), .second, .val (.long c32), .second, .val (.long c34), .second, .unset, .unset, .unset, .unset] [])) target → Steps p.tables e below (T9.setTop (mkF m 230 #[.val (.int u0), .val (.int u1), .val (.int u2), .val (.int u3), .val (.int u4), .val (.int nk0), .val (.int nk), .val (.long lx0), .second, .val (.long ly0), .second, .val (.long lx1), .second, .val (.long ly1), .second, .val (.long lx2), .second, .val (.long ly2), .second, .val (.long lx3), .second, .val (.long ly3), .second, .val (.ref b7), .val (.ref b8), .val (.ref b9), .val (.long ((lx0 * ly1) - (lx1 * ly0))), .second, .val (.long ((lx1 * ly2) - (lx2 * ly1))), .second, .val (.long ((lx2 * ly0) - (lx0 * ly2))), .second, .val (.long ((lx2 * ly3) - (lx3 * ly2))), .second, .val (.long ((lx3 * ly0) - (lx0 * ly3))), .second, .unset, .unset, .unset, .unset] [])) target := by intro target kt; rw [ec26, ec28, ec30, ec32, ec34] at kt; exact kt
  obtain ⟨_, _, ⟨T11, L11, k11, n11⟩, -, X11, ⟨Lc11, hQ11, l11, y11, z11⟩, st11⟩ := Jvm.LawKit.callS X9 hx (y := (⟨"com/example/decorum/decorum/graphics/Rasterizer", "clockwise", "([D)[D"⟩ : MethodName)) hown (mvT hZ (hw _ (List.mem_of_getElem? (i := 5) rfl))) (mvT hZ (hw _ (List.mem_of_getElem? (i := 6) rfl))) (mvT hZ (hw _ (List.mem_of_getElem? (i := 7) rfl))) (mvT hZ (hw _ (List.mem_of_getElem? (i := 8) rfl))) (by decide) (backOf (W := 0) (rmC0 l Z a0 hw [] b7 kk7 T9.heap n0 Z9 ((V7.keep K8 nin0).keep K9 nin0) hB) hZ (hw _ (List.mem_of_getElem? (i := 8) rfl)) (hw _ (List.mem_of_getElem? (i := 7) rfl)) (by decide) (by decide)) (g := (mkF m 273 #[.val (.int u0), .val (.int u1), .val (.int u2), .val (.int u3), .val (.int u4), .val (.int nk0), .val (.int nk), .val (.long lx0), .second, .val (.long ly0), .second, .val (.long lx1), .second, .val (.long ly1), .second, .val (.long lx2), .second, .val (.long ly2), .second, .val (.long lx3), .second, .val (.long ly3), .second, .val (.ref b7), .val (.ref b8), .val (.ref b9), .val (.long c26), .second, .val (.long c28), .second, .val (.long c30), .second, .val (.long c32), .second, .val (.long c34), .second, .val (.long (0 : Int64)), .second, .unset, .unset] [(.ref b7)])) rfl (by rw [hml]; rfl) (argsL := [(.ref b7)]) (rest := []) (lenOf pd_1 rfl) rfl (by show 2 * 0 + _ ≤ _; exact Nat.le_of_eq rfl) (hb hby at_273) (fun _ _ => ⟨rfl, rfl, (by decide : 3 + 0 ≤ _), (by decide : 0 + 0 ≤ _)⟩)
  dsimp only [Pt.U, Pt.locs, Pt.cells, Pt.slots] at X11 l11 y11 z11 st11 hQ11
  replace y11 : k11 = 3 := y11
  replace z11 : n11 = 0 := z11
  rw [y11, z11] at X11
  obtain ⟨rfl, N11q, e11⟩ := hQ11
  have N11 : Fr n0 L11 := l11 ▸ Fr.app N9 N11q
  obtain ⟨_, _, ⟨T12, L12, k12, n12⟩, -, X12, ⟨Lc12, hQ12, l12, y12, z12⟩, st12⟩ := Jvm.LawKit.callS X11 hx (y := (⟨"com/example/decorum/decorum/graphics/RasterizerClockwisePinLaw", "same", "([D[D)Z"⟩ : MethodName)) hown (mvT hZ (hw _ (List.mem_of_getElem? (i := 9) rfl))) (mvT hZ (hw _ (List.mem_of_getElem? (i := 10) rfl))) (mvT hZ (hw _ (List.mem_of_getElem? (i := 2) rfl))) (mvT hZ (hw _ (List.mem_of_getElem? (i := 11) rfl))) (by decide) (backOf (W := 0) (rmS0 l Z a0 hw [] b7 b8 kk7 kk8 T9.heap n0 Z9 ((V7.keep K8 nin0).keep K9 nin0) (V8.keep K9 nin0)) hZ (hw _ (List.mem_of_getElem? (i := 11) rfl)) (hw _ (List.mem_of_getElem? (i := 2) rfl)) (by decide) (by decide)) (g := (mkF m 282 #[.val (.int u0), .val (.int u1), .val (.int u2), .val (.int u3), .val (.int u4), .val (.int nk0), .val (.int nk), .val (.long lx0), .second, .val (.long ly0), .second, .val (.long lx1), .second, .val (.long ly1), .second, .val (.long lx2), .second, .val (.long ly2), .second, .val (.long lx3), .second, .val (.long ly3), .second, .val (.ref b7), .val (.ref b8), .val (.ref b9), .val (.long c26), .second, .val (.long c28), .second, .val (.long c30), .second, .val (.long c32), .second, .val (.long c34), .second, .val (.long (0 : Int64)), .second, .val (.ref b7), .unset] [(.ref b8), (.ref b7)])) rfl (by rw [hml]; rfl) (argsL := [(.ref b7), (.ref b8)]) (rest := []) (lenOf pd_2 rfl) rfl (by show 2 * 0 + _ ≤ _; exact Nat.le_of_eq rfl) (hb hby at_282) (fun _ _ => ⟨rfl, e11, (by decide : 3 + 0 ≤ _), (by decide : 0 + 0 ≤ _)⟩)
  dsimp only [Pt.U, Pt.locs, Pt.cells, Pt.slots] at X12 l12 y12 z12 st12 hQ12
  replace y12 : k12 = 3 := y12
  replace z12 : n12 = 0 := z12
  rw [y12, z12] at X12
  obtain ⟨rfl, N12q, e12⟩ := hQ12
  have N12 : Fr n0 L12 := l12 ▸ Fr.app N11 N12q
  obtain ⟨fs, hr, hrun, hended, hW, hsame⟩ := X12.leave (v := some (.int (1 : Int32))) (fun h => by rw [Bd.returns] at h; cases h)
  refine ⟨_, _, pre0 _ ?_, hrun, hended, _, _, rfl, ?_, ⟨_, rfl⟩, hW, hsame.mono (by decide) (by decide)⟩
  · show Steps p.tables e below (s₁.setTop (mkF m 0 #[.val (.int u0), .val (.int u1), .val (.int u2), .val (.int u3), .val (.int u4), .unset, .unset, .unset, .unset, .unset, .unset, .unset, .unset, .unset, .unset, .unset, .unset, .unset, .unset, .unset, .unset, .unset, .unset, .unset, .unset, .unset, .unset, .unset, .unset, .unset, .unset, .unset, .unset, .unset, .unset, .unset, .unset, .unset, .unset, .unset] [])) _
    refine XS.iload X0.here hx rfl (hb hby at_0) rfl ?_
    refine XS.bipush X0.here hx rfl (hb hby at_2) ?_
    show Steps p.tables e below (s₁.setTop (mkF m 4 #[.val (.int u0), .val (.int u1), .val (.int u2), .val (.int u3), .val (.int u4), .unset, .unset, .unset, .unset, .unset, .unset, .unset, .unset, .unset, .unset, .unset, .unset, .unset, .unset, .unset, .unset, .unset, .unset, .unset, .unset, .unset, .unset, .unset, .unset, .unset, .unset, .unset, .unset, .unset, .unset, .unset, .unset, .unset, .unset, .unset] [(.int (7 : Int32)), (.int u4)])) _
    refine XS.iand X0.here hx rfl (hb hby at_4) rfl ?_
    show Steps p.tables e below (s₁.setTop (mkF m 5 #[.val (.int u0), .val (.int u1), .val (.int u2), .val (.int u3), .val (.int u4), .unset, .unset, .unset, .unset, .unset, .unset, .unset, .unset, .unset, .unset, .unset, .unset, .unset, .unset, .unset, .unset, .unset, .unset, .unset, .unset, .unset, .unset, .unset, .unset, .unset, .unset, .unset, .unset, .unset, .unset, .unset, .unset, .unset, .unset, .unset] [(.int (u4 &&& (7 : Int32)))])) _
    refine XS.istore X0.here hx rfl (hb hby at_5) rfl (l' := #[.val (.int u0), .val (.int u1), .val (.int u2), .val (.int u3), .val (.int u4), .val (.int (u4 &&& (7 : Int32))), .unset, .unset, .unset, .unset, .unset, .unset, .unset, .unset, .unset, .unset, .unset, .unset, .unset, .unset, .unset, .unset, .unset, .unset, .unset, .unset, .unset, .unset, .unset, .unset, .unset, .unset, .unset, .unset, .unset, .unset, .unset, .unset, .unset, .unset]) rfl ?_
    refine st1 _ ?_
    refine XS.istore X0.here hx rfl (hb hby at_19) rfl (l' := #[.val (.int u0), .val (.int u1), .val (.int u2), .val (.int u3), .val (.int u4), .val (.int (u4 &&& (7 : Int32))), .val (.int mv1_0), .unset, .unset, .unset, .unset, .unset, .unset, .unset, .unset, .unset, .unset, .unset, .unset, .unset, .unset, .unset, .unset, .unset, .unset, .unset, .unset, .unset, .unset, .unset, .unset, .unset, .unset, .unset, .unset, .unset, .unset, .unset, .unset, .unset]) rfl ?_
    refine XS.iloadN X0.here hx rfl (hb hby at_21) rfl ?_
    refine XS.bipush X0.here hx rfl (hb hby at_22) ?_
    refine XS.ishr X0.here hx rfl (hb hby at_24) rfl ?_
    refine XS.i2l X0.here hx rfl (hb hby at_25) rfl ?_
    refine XS.lstore X0.here hx rfl (hb hby at_26) rfl (l' := #[.val (.int u0), .val (.int u1), .val (.int u2), .val (.int u3), .val (.int u4), .val (.int (u4 &&& (7 : Int32))), .val (.int mv1_0), .val (.long ((u0 >>> ((16 : Int32) &&& 31)).toInt64)), .second, .unset, .unset, .unset, .unset, .unset, .unset, .unset, .unset, .unset, .unset, .unset, .unset, .unset, .unset, .unset, .unset, .unset, .unset, .unset, .unset, .unset, .unset, .unset, .unset, .unset, .unset, .unset, .unset, .unset, .unset, .unset]) rfl ?_
    refine XS.iloadN X0.here hx rfl (hb hby at_28) rfl ?_
    refine XS.i2s X0.here hx rfl (hb hby at_29) rfl ?_
    refine XS.i2l X0.here hx rfl (hb hby at_30) rfl ?_
    refine XS.lstore X0.here hx rfl (hb hby at_31) rfl (l' := #[.val (.int u0), .val (.int u1), .val (.int u2), .val (.int u3), .val (.int u4), .val (.int (u4 &&& (7 : Int32))), .val (.int mv1_0), .val (.long ((u0 >>> ((16 : Int32) &&& 31)).toInt64)), .second, .val (.long ((u0.toInt16.toInt32).toInt64)), .second, .unset, .unset, .unset, .unset, .unset, .unset, .unset, .unset, .unset, .unset, .unset, .unset, .unset, .unset, .unset, .unset, .unset, .unset, .unset, .unset, .unset, .unset, .unset, .unset, .unset, .unset, .unset, .unset, .unset]) rfl ?_
    refine st2 _ ?_
    show Steps p.tables e below (s₁.setTop (mkF m 33 #[.val (.int u0), .val (.int u1), .val (.int u2), .val (.int u3), .val (.int u4), .val (.int (u4 &&& (7 : Int32))), .val (.int mv1_0), .val (.long lx0), .second, .val (.long ly0), .second, .unset, .unset, .unset, .unset, .unset, .unset, .unset, .unset, .unset, .unset, .unset, .unset, .unset, .unset, .unset, .unset, .unset, .unset, .unset, .unset, .unset, .unset, .unset, .unset, .unset, .unset, .unset, .unset, .unset] [])) _
    refine XS.iloadN X0.here hx rfl (hb hby at_33) rfl ?_
    refine XS.bipush X0.here hx rfl (hb hby at_34) ?_
    refine XS.ishr X0.here hx rfl (hb hby at_36) rfl ?_
    refine XS.i2l X0.here hx rfl (hb hby at_37) rfl ?_
    refine XS.lstore X0.here hx rfl (hb hby at_38) rfl (l' := #[.val (.int u0), .val (.int u1), .val (.int u2), .val (.int u3), .val (.int u4), .val (.int (u4 &&& (7 : Int32))), .val (.int mv1_0), .val (.long lx0), .second, .val (.long ly0), .second, .val (.long ((u1 >>> ((16 : Int32) &&& 31)).toInt64)), .second, .unset, .unset, .unset, .unset, .unset, .unset, .unset, .unset, .unset, .unset, .unset, .unset, .unset, .unset, .unset, .unset, .unset, .unset, .unset, .unset, .unset, .unset, .unset, .unset, .unset, .unset, .unset]) rfl ?_
    refine XS.iloadN X0.here hx rfl (hb hby at_40) rfl ?_
    refine XS.i2s X0.here hx rfl (hb hby at_41) rfl ?_
    refine XS.i2l X0.here hx rfl (hb hby at_42) rfl ?_
    refine XS.lstore X0.here hx rfl (hb hby at_43) rfl (l' := #[.val (.int u0), .val (.int u1), .val (.int u2), .val (.int u3), .val (.int u4), .val (.int (u4 &&& (7 : Int32))), .val (.int mv1_0), .val (.long lx0), .second, .val (.long ly0), .second, .val (.long ((u1 >>> ((16 : Int32) &&& 31)).toInt64)), .second, .val (.long ((u1.toInt16.toInt32).toInt64)), .second, .unset, .unset, .unset, .unset, .unset, .unset, .unset, .unset, .unset, .unset, .unset, .unset, .unset, .unset, .unset, .unset, .unset, .unset, .unset, .unset, .unset, .unset, .unset, .unset, .unset]) rfl ?_
    refine st3 _ ?_
    show Steps p.tables e below (s₁.setTop (mkF m 45 #[.val (.int u0), .val (.int u1), .val (.int u2), .val (.int u3), .val (.int u4), .val (.int (u4 &&& (7 : Int32))), .val (.int mv1_0), .val (.long lx0), .second, .val (.long ly0), .second, .val (.long lx1), .second, .val (.long ly1), .second, .unset, .unset, .unset, .unset, .unset, .unset, .unset, .unset, .unset, .unset, .unset, .unset, .unset, .unset, .unset, .unset, .unset, .unset, .unset, .unset, .unset, .unset, .unset, .unset, .unset] [])) _
    refine XS.iloadN X0.here hx rfl (hb hby at_45) rfl ?_
    refine XS.bipush X0.here hx rfl (hb hby at_46) ?_
    refine XS.ishr X0.here hx rfl (hb hby at_48) rfl ?_
    refine XS.i2l X0.here hx rfl (hb hby at_49) rfl ?_
    refine XS.lstore X0.here hx rfl (hb hby at_50) rfl (l' := #[.val (.int u0), .val (.int u1), .val (.int u2), .val (.int u3), .val (.int u4), .val (.int (u4 &&& (7 : Int32))), .val (.int mv1_0), .val (.long lx0), .second, .val (.long ly0), .second, .val (.long lx1), .second, .val (.long ly1), .second, .val (.long ((u2 >>> ((16 : Int32) &&& 31)).toInt64)), .second, .unset, .unset, .unset, .unset, .unset, .unset, .unset, .unset, .unset, .unset, .unset, .unset, .unset, .unset, .unset, .unset, .unset, .unset, .unset, .unset, .unset, .unset, .unset]) rfl ?_
    refine XS.iloadN X0.here hx rfl (hb hby at_52) rfl ?_
    refine XS.i2s X0.here hx rfl (hb hby at_53) rfl ?_
    refine XS.i2l X0.here hx rfl (hb hby at_54) rfl ?_
    refine XS.lstore X0.here hx rfl (hb hby at_55) rfl (l' := #[.val (.int u0), .val (.int u1), .val (.int u2), .val (.int u3), .val (.int u4), .val (.int (u4 &&& (7 : Int32))), .val (.int mv1_0), .val (.long lx0), .second, .val (.long ly0), .second, .val (.long lx1), .second, .val (.long ly1), .second, .val (.long ((u2 >>> ((16 : Int32) &&& 31)).toInt64)), .second, .val (.long ((u2.toInt16.toInt32).toInt64)), .second, .unset, .unset, .unset, .unset, .unset, .unset, .unset, .unset, .unset, .unset, .unset, .unset, .unset, .unset, .unset, .unset, .unset, .unset, .unset, .unset, .unset]) rfl ?_
    refine st4 _ ?_
    show Steps p.tables e below (s₁.setTop (mkF m 57 #[.val (.int u0), .val (.int u1), .val (.int u2), .val (.int u3), .val (.int u4), .val (.int (u4 &&& (7 : Int32))), .val (.int mv1_0), .val (.long lx0), .second, .val (.long ly0), .second, .val (.long lx1), .second, .val (.long ly1), .second, .val (.long lx2), .second, .val (.long ly2), .second, .unset, .unset, .unset, .unset, .unset, .unset, .unset, .unset, .unset, .unset, .unset, .unset, .unset, .unset, .unset, .unset, .unset, .unset, .unset, .unset, .unset] [])) _
    refine XS.iloadN X0.here hx rfl (hb hby at_57) rfl ?_
    refine XS.bipush X0.here hx rfl (hb hby at_58) ?_
    refine XS.ishr X0.here hx rfl (hb hby at_60) rfl ?_
    refine XS.i2l X0.here hx rfl (hb hby at_61) rfl ?_
    refine XS.lstore X0.here hx rfl (hb hby at_62) rfl (l' := #[.val (.int u0), .val (.int u1), .val (.int u2), .val (.int u3), .val (.int u4), .val (.int (u4 &&& (7 : Int32))), .val (.int mv1_0), .val (.long lx0), .second, .val (.long ly0), .second, .val (.long lx1), .second, .val (.long ly1), .second, .val (.long lx2), .second, .val (.long ly2), .second, .val (.long ((u3 >>> ((16 : Int32) &&& 31)).toInt64)), .second, .unset, .unset, .unset, .unset, .unset, .unset, .unset, .unset, .unset, .unset, .unset, .unset, .unset, .unset, .unset, .unset, .unset, .unset, .unset]) rfl ?_
    refine XS.iloadN X0.here hx rfl (hb hby at_64) rfl ?_
    refine XS.i2s X0.here hx rfl (hb hby at_65) rfl ?_
    refine XS.i2l X0.here hx rfl (hb hby at_66) rfl ?_
    refine XS.lstore X0.here hx rfl (hb hby at_67) rfl (l' := #[.val (.int u0), .val (.int u1), .val (.int u2), .val (.int u3), .val (.int u4), .val (.int (u4 &&& (7 : Int32))), .val (.int mv1_0), .val (.long lx0), .second, .val (.long ly0), .second, .val (.long lx1), .second, .val (.long ly1), .second, .val (.long lx2), .second, .val (.long ly2), .second, .val (.long ((u3 >>> ((16 : Int32) &&& 31)).toInt64)), .second, .val (.long ((u3.toInt16.toInt32).toInt64)), .second, .unset, .unset, .unset, .unset, .unset, .unset, .unset, .unset, .unset, .unset, .unset, .unset, .unset, .unset, .unset, .unset, .unset]) rfl ?_
    refine st5 _ ?_
    refine st6 _ ?_
    show Steps p.tables e below (s₁.setTop (mkF m 69 #[.val (.int u0), .val (.int u1), .val (.int u2), .val (.int u3), .val (.int u4), .val (.int nk0), .val (.int nk), .val (.long lx0), .second, .val (.long ly0), .second, .val (.long lx1), .second, .val (.long ly1), .second, .val (.long lx2), .second, .val (.long ly2), .second, .val (.long lx3), .second, .val (.long ly3), .second, .unset, .unset, .unset, .unset, .unset, .unset, .unset, .unset, .unset, .unset, .unset, .unset, .unset, .unset, .unset, .unset, .unset] [])) _
    refine XS.iload X0.here hx rfl (hb hby at_69) rfl ?_
    refine XS.lload X0.here hx rfl (hb hby at_71) rfl ?_
    refine XS.lload X0.here hx rfl (hb hby at_73) rfl ?_
    refine XS.lload X0.here hx rfl (hb hby at_75) rfl ?_
    refine XS.lload X0.here hx rfl (hb hby at_77) rfl ?_
    refine XS.lload X0.here hx rfl (hb hby at_79) rfl ?_
    refine XS.lload X0.here hx rfl (hb hby at_81) rfl ?_
    refine XS.lload X0.here hx rfl (hb hby at_83) rfl ?_
    refine XS.lload X0.here hx rfl (hb hby at_85) rfl ?_
    refine st7 _ ?_
    show Steps p.tables e below (T7.setTop (mkF m 90 #[.val (.int u0), .val (.int u1), .val (.int u2), .val (.int u3), .val (.int u4), .val (.int nk0), .val (.int nk), .val (.long lx0), .second, .val (.long ly0), .second, .val (.long lx1), .second, .val (.long ly1), .second, .val (.long lx2), .second, .val (.long ly2), .second, .val (.long lx3), .second, .val (.long ly3), .second, .unset, .unset, .unset, .unset, .unset, .unset, .unset, .unset, .unset, .unset, .unset, .unset, .unset, .unset, .unset, .unset, .unset] [(.ref b7)])) _
    refine XS.astore X7.here hx rfl (hb hby at_90) rfl rfl (l' := #[.val (.int u0), .val (.int u1), .val (.int u2), .val (.int u3), .val (.int u4), .val (.int nk0), .val (.int nk), .val (.long lx0), .second, .val (.long ly0), .second, .val (.long lx1), .second, .val (.long ly1), .second, .val (.long lx2), .second, .val (.long ly2), .second, .val (.long lx3), .second, .val (.long ly3), .second, .val (.ref b7), .unset, .unset, .unset, .unset, .unset, .unset, .unset, .unset, .unset, .unset, .unset, .unset, .unset, .unset, .unset, .unset]) rfl ?_
    refine XS.iload X7.here hx rfl (hb hby at_92) rfl ?_
    refine XS.lload X7.here hx rfl (hb hby at_94) rfl ?_
    refine XS.lload X7.here hx rfl (hb hby at_96) rfl ?_
    refine XS.lload X7.here hx rfl (hb hby at_98) rfl ?_
    refine XS.lload X7.here hx rfl (hb hby at_100) rfl ?_
    refine XS.lload X7.here hx rfl (hb hby at_102) rfl ?_
    refine XS.lload X7.here hx rfl (hb hby at_104) rfl ?_
    refine XS.lload X7.here hx rfl (hb hby at_106) rfl ?_
    refine XS.lload X7.here hx rfl (hb hby at_108) rfl ?_
    refine st8 _ ?_
    show Steps p.tables e below (T8.setTop (mkF m 113 #[.val (.int u0), .val (.int u1), .val (.int u2), .val (.int u3), .val (.int u4), .val (.int nk0), .val (.int nk), .val (.long lx0), .second, .val (.long ly0), .second, .val (.long lx1), .second, .val (.long ly1), .second, .val (.long lx2), .second, .val (.long ly2), .second, .val (.long lx3), .second, .val (.long ly3), .second, .val (.ref b7), .unset, .unset, .unset, .unset, .unset, .unset, .unset, .unset, .unset, .unset, .unset, .unset, .unset, .unset, .unset, .unset] [(.ref b8)])) _
    refine XS.astore X8.here hx rfl (hb hby at_113) rfl rfl (l' := #[.val (.int u0), .val (.int u1), .val (.int u2), .val (.int u3), .val (.int u4), .val (.int nk0), .val (.int nk), .val (.long lx0), .second, .val (.long ly0), .second, .val (.long lx1), .second, .val (.long ly1), .second, .val (.long lx2), .second, .val (.long ly2), .second, .val (.long lx3), .second, .val (.long ly3), .second, .val (.ref b7), .val (.ref b8), .unset, .unset, .unset, .unset, .unset, .unset, .unset, .unset, .unset, .unset, .unset, .unset, .unset, .unset, .unset]) rfl ?_
    refine XS.iload X8.here hx rfl (hb hby at_115) rfl ?_
    refine XS.iconst X8.here hx rfl (hb hby at_117) ?_
    refine XS.icmpYes X8.here hx rfl (pc0 := 118) (pc' := 144) rfl (hb hby at_118) rfl (feq (by rw [hnk]; decide)).2 (by decide) (by decide) ?_
    refine XS.iload X8.here hx rfl (hb hby at_144) rfl ?_
    refine XS.lload X8.here hx rfl (hb hby at_146) rfl ?_
    refine XS.lload X8.here hx rfl (hb hby at_148) rfl ?_
    refine XS.lload X8.here hx rfl (hb hby at_150) rfl ?_
    refine XS.lload X8.here hx rfl (hb hby at_152) rfl ?_
    refine XS.lload X8.here hx rfl (hb hby at_154) rfl ?_
    refine XS.lload X8.here hx rfl (hb hby at_156) rfl ?_
    refine XS.lconst X8.here hx rfl (hb hby at_158) ?_
    refine XS.lconst X8.here hx rfl (hb hby at_159) ?_
    refine st9 _ ?_
    show Steps p.tables e below (T9.setTop (mkF m 163 #[.val (.int u0), .val (.int u1), .val (.int u2), .val (.int u3), .val (.int u4), .val (.int nk0), .val (.int nk), .val (.long lx0), .second, .val (.long ly0), .second, .val (.long lx1), .second, .val (.long ly1), .second, .val (.long lx2), .second, .val (.long ly2), .second, .val (.long lx3), .second, .val (.long ly3), .second, .val (.ref b7), .val (.ref b8), .unset, .unset, .unset, .unset, .unset, .unset, .unset, .unset, .unset, .unset, .unset, .unset, .unset, .unset, .unset] [(.ref b9)])) _
    refine XS.astore X9.here hx rfl (hb hby at_163) rfl rfl (l' := #[.val (.int u0), .val (.int u1), .val (.int u2), .val (.int u3), .val (.int u4), .val (.int nk0), .val (.int nk), .val (.long lx0), .second, .val (.long ly0), .second, .val (.long lx1), .second, .val (.long ly1), .second, .val (.long lx2), .second, .val (.long ly2), .second, .val (.long lx3), .second, .val (.long ly3), .second, .val (.ref b7), .val (.ref b8), .val (.ref b9), .unset, .unset, .unset, .unset, .unset, .unset, .unset, .unset, .unset, .unset, .unset, .unset, .unset, .unset]) rfl ?_
    refine XS.lload X9.here hx rfl (hb hby at_165) rfl ?_
    refine XS.lload X9.here hx rfl (hb hby at_167) rfl ?_
    refine XS.lmul X9.here hx rfl (hb hby at_169) rfl ?_
    refine XS.lload X9.here hx rfl (hb hby at_170) rfl ?_
    refine XS.lload X9.here hx rfl (hb hby at_172) rfl ?_
    refine XS.lmul X9.here hx rfl (hb hby at_174) rfl ?_
    refine XS.lsub X9.here hx rfl (hb hby at_175) rfl ?_
    refine XS.lstore X9.here hx rfl (hb hby at_176) rfl (l' := #[.val (.int u0), .val (.int u1), .val (.int u2), .val (.int u3), .val (.int u4), .val (.int nk0), .val (.int nk), .val (.long lx0), .second, .val (.long ly0), .second, .val (.long lx1), .second, .val (.long ly1), .second, .val (.long lx2), .second, .val (.long ly2), .second, .val (.long lx3), .second, .val (.long ly3), .second, .val (.ref b7), .val (.ref b8), .val (.ref b9), .val (.long ((lx0 * ly1) - (lx1 * ly0))), .second, .unset, .unset, .unset, .unset, .unset, .unset, .unset, .unset, .unset, .unset, .unset, .unset]) rfl ?_
    refine XS.lload X9.here hx rfl (hb hby at_178) rfl ?_
    refine XS.lload X9.here hx rfl (hb hby at_180) rfl ?_
    refine XS.lmul X9.here hx rfl (hb hby at_182) rfl ?_
    refine XS.lload X9.here hx rfl (hb hby at_183) rfl ?_
    refine XS.lload X9.here hx rfl (hb hby at_185) rfl ?_
    refine XS.lmul X9.here hx rfl (hb hby at_187) rfl ?_
    refine XS.lsub X9.here hx rfl (hb hby at_188) rfl ?_
    refine XS.lstore X9.here hx rfl (hb hby at_189) rfl (l' := #[.val (.int u0), .val (.int u1), .val (.int u2), .val (.int u3), .val (.int u4), .val (.int nk0), .val (.int nk), .val (.long lx0), .second, .val (.long ly0), .second, .val (.long lx1), .second, .val (.long ly1), .second, .val (.long lx2), .second, .val (.long ly2), .second, .val (.long lx3), .second, .val (.long ly3), .second, .val (.ref b7), .val (.ref b8), .val (.ref b9), .val (.long ((lx0 * ly1) - (lx1 * ly0))), .second, .val (.long ((lx1 * ly2) - (lx2 * ly1))), .second, .unset, .unset, .unset, .unset, .unset, .unset, .unset, .unset, .unset, .unset]) rfl ?_
    refine XS.lload X9.here hx rfl (hb hby at_191) rfl ?_
    refine XS.lload X9.here hx rfl (hb hby at_193) rfl ?_
    refine XS.lmul X9.here hx rfl (hb hby at_195) rfl ?_
    refine XS.lload X9.here hx rfl (hb hby at_196) rfl ?_
    refine XS.lload X9.here hx rfl (hb hby at_198) rfl ?_
    refine XS.lmul X9.here hx rfl (hb hby at_200) rfl ?_
    refine XS.lsub X9.here hx rfl (hb hby at_201) rfl ?_
    refine XS.lstore X9.here hx rfl (hb hby at_202) rfl (l' := #[.val (.int u0), .val (.int u1), .val (.int u2), .val (.int u3), .val (.int u4), .val (.int nk0), .val (.int nk), .val (.long lx0), .second, .val (.long ly0), .second, .val (.long lx1), .second, .val (.long ly1), .second, .val (.long lx2), .second, .val (.long ly2), .second, .val (.long lx3), .second, .val (.long ly3), .second, .val (.ref b7), .val (.ref b8), .val (.ref b9), .val (.long ((lx0 * ly1) - (lx1 * ly0))), .second, .val (.long ((lx1 * ly2) - (lx2 * ly1))), .second, .val (.long ((lx2 * ly0) - (lx0 * ly2))), .second, .unset, .unset, .unset, .unset, .unset, .unset, .unset, .unset]) rfl ?_
    show Steps p.tables e below (T9.setTop (mkF m 204 #[.val (.int u0), .val (.int u1), .val (.int u2), .val (.int u3), .val (.int u4), .val (.int nk0), .val (.int nk), .val (.long lx0), .second, .val (.long ly0), .second, .val (.long lx1), .second, .val (.long ly1), .second, .val (.long lx2), .second, .val (.long ly2), .second, .val (.long lx3), .second, .val (.long ly3), .second, .val (.ref b7), .val (.ref b8), .val (.ref b9), .val (.long ((lx0 * ly1) - (lx1 * ly0))), .second, .val (.long ((lx1 * ly2) - (lx2 * ly1))), .second, .val (.long ((lx2 * ly0) - (lx0 * ly2))), .second, .unset, .unset, .unset, .unset, .unset, .unset, .unset, .unset] [])) _
    refine XS.lload X9.here hx rfl (hb hby at_204) rfl ?_
    refine XS.lload X9.here hx rfl (hb hby at_206) rfl ?_
    refine XS.lmul X9.here hx rfl (hb hby at_208) rfl ?_
    refine XS.lload X9.here hx rfl (hb hby at_209) rfl ?_
    refine XS.lload X9.here hx rfl (hb hby at_211) rfl ?_
    refine XS.lmul X9.here hx rfl (hb hby at_213) rfl ?_
    refine XS.lsub X9.here hx rfl (hb hby at_214) rfl ?_
    refine XS.lstore X9.here hx rfl (hb hby at_215) rfl (l' := #[.val (.int u0), .val (.int u1), .val (.int u2), .val (.int u3), .val (.int u4), .val (.int nk0), .val (.int nk), .val (.long lx0), .second, .val (.long ly0), .second, .val (.long lx1), .second, .val (.long ly1), .second, .val (.long lx2), .second, .val (.long ly2), .second, .val (.long lx3), .second, .val (.long ly3), .second, .val (.ref b7), .val (.ref b8), .val (.ref b9), .val (.long ((lx0 * ly1) - (lx1 * ly0))), .second, .val (.long ((lx1 * ly2) - (lx2 * ly1))), .second, .val (.long ((lx2 * ly0) - (lx0 * ly2))), .second, .val (.long ((lx2 * ly3) - (lx3 * ly2))), .second, .unset, .unset, .unset, .unset, .unset, .unset]) rfl ?_
    refine XS.lload X9.here hx rfl (hb hby at_217) rfl ?_
    refine XS.lload X9.here hx rfl (hb hby at_219) rfl ?_
    refine XS.lmul X9.here hx rfl (hb hby at_221) rfl ?_
    refine XS.lload X9.here hx rfl (hb hby at_222) rfl ?_
    refine XS.lload X9.here hx rfl (hb hby at_224) rfl ?_
    refine XS.lmul X9.here hx rfl (hb hby at_226) rfl ?_
    refine XS.lsub X9.here hx rfl (hb hby at_227) rfl ?_
    refine XS.lstore X9.here hx rfl (hb hby at_228) rfl (l' := #[.val (.int u0), .val (.int u1), .val (.int u2), .val (.int u3), .val (.int u4), .val (.int nk0), .val (.int nk), .val (.long lx0), .second, .val (.long ly0), .second, .val (.long lx1), .second, .val (.long ly1), .second, .val (.long lx2), .second, .val (.long ly2), .second, .val (.long lx3), .second, .val (.long ly3), .second, .val (.ref b7), .val (.ref b8), .val (.ref b9), .val (.long ((lx0 * ly1) - (lx1 * ly0))), .second, .val (.long ((lx1 * ly2) - (lx2 * ly1))), .second, .val (.long ((lx2 * ly0) - (lx0 * ly2))), .second, .val (.long ((lx2 * ly3) - (lx3 * ly2))), .second, .val (.long ((lx3 * ly0) - (lx0 * ly3))), .second, .unset, .unset, .unset, .unset]) rfl ?_
    refine st10 _ ?_
    show Steps p.tables e below (T9.setTop (mkF m 230 #[.val (.int u0), .val (.int u1), .val (.int u2), .val (.int u3), .val (.int u4), .val (.int nk0), .val (.int nk), .val (.long lx0), .second, .val (.long ly0), .second, .val (.long lx1), .second, .val (.long ly1), .second, .val (.long lx2), .second, .val (.long ly2), .second, .val (.long lx3), .second, .val (.long ly3), .second, .val (.ref b7), .val (.ref b8), .val (.ref b9), .val (.long c26), .second, .val (.long c28), .second, .val (.long c30), .second, .val (.long c32), .second, .val (.long c34), .second, .unset, .unset, .unset, .unset] [])) _
    refine XS.lconst X9.here hx rfl (hb hby at_230) ?_
    refine XS.lstore X9.here hx rfl (hb hby at_231) rfl (l' := #[.val (.int u0), .val (.int u1), .val (.int u2), .val (.int u3), .val (.int u4), .val (.int nk0), .val (.int nk), .val (.long lx0), .second, .val (.long ly0), .second, .val (.long lx1), .second, .val (.long ly1), .second, .val (.long lx2), .second, .val (.long ly2), .second, .val (.long lx3), .second, .val (.long ly3), .second, .val (.ref b7), .val (.ref b8), .val (.ref b9), .val (.long c26), .second, .val (.long c28), .second, .val (.long c30), .second, .val (.long c32), .second, .val (.long c34), .second, .val (.long (0 : Int64)), .second, .unset, .unset]) rfl ?_
    refine XS.iload X9.here hx rfl (hb hby at_233) rfl ?_
    refine XS.iconst X9.here hx rfl (hb hby at_235) ?_
    refine XS.icmpYes X9.here hx rfl (pc0 := 236) (pc' := 252) rfl (hb hby at_236) rfl (feq (by rw [hnk]; decide)).2 (by decide) (by decide) ?_
    refine XS.iload X9.here hx rfl (hb hby at_252) rfl ?_
    refine XS.iconst X9.here hx rfl (hb hby at_254) ?_
    refine XS.icmpYes X9.here hx rfl (pc0 := 255) (pc' := 271) rfl (hb hby at_255) rfl (feq (by rw [hnk]; decide)).2 (by decide) (by decide) ?_
    refine XS.aload X9.here hx rfl (hb hby at_271) rfl rfl ?_
    refine st11 _ ?_
    show Steps p.tables e below (T11.setTop (mkF m 276 #[.val (.int u0), .val (.int u1), .val (.int u2), .val (.int u3), .val (.int u4), .val (.int nk0), .val (.int nk), .val (.long lx0), .second, .val (.long ly0), .second, .val (.long lx1), .second, .val (.long ly1), .second, .val (.long lx2), .second, .val (.long ly2), .second, .val (.long lx3), .second, .val (.long ly3), .second, .val (.ref b7), .val (.ref b8), .val (.ref b9), .val (.long c26), .second, .val (.long c28), .second, .val (.long c30), .second, .val (.long c32), .second, .val (.long c34), .second, .val (.long (0 : Int64)), .second, .unset, .unset] [(.ref b7)])) _
    refine XS.astore X11.here hx rfl (hb hby at_276) rfl rfl (l' := #[.val (.int u0), .val (.int u1), .val (.int u2), .val (.int u3), .val (.int u4), .val (.int nk0), .val (.int nk), .val (.long lx0), .second, .val (.long ly0), .second, .val (.long lx1), .second, .val (.long ly1), .second, .val (.long lx2), .second, .val (.long ly2), .second, .val (.long lx3), .second, .val (.long ly3), .second, .val (.ref b7), .val (.ref b8), .val (.ref b9), .val (.long c26), .second, .val (.long c28), .second, .val (.long c30), .second, .val (.long c32), .second, .val (.long c34), .second, .val (.long (0 : Int64)), .second, .val (.ref b7), .unset]) rfl ?_
    refine XS.aload X11.here hx rfl (hb hby at_278) rfl rfl ?_
    refine XS.aload X11.here hx rfl (hb hby at_280) rfl rfl ?_
    refine st12 _ ?_
    show Steps p.tables e below (T12.setTop (mkF m 285 #[.val (.int u0), .val (.int u1), .val (.int u2), .val (.int u3), .val (.int u4), .val (.int nk0), .val (.int nk), .val (.long lx0), .second, .val (.long ly0), .second, .val (.long lx1), .second, .val (.long ly1), .second, .val (.long lx2), .second, .val (.long ly2), .second, .val (.long lx3), .second, .val (.long ly3), .second, .val (.ref b7), .val (.ref b8), .val (.ref b9), .val (.long c26), .second, .val (.long c28), .second, .val (.long c30), .second, .val (.long c32), .second, .val (.long c34), .second, .val (.long (0 : Int64)), .second, .val (.ref b7), .unset] [(.int (1 : Int32))])) _
    refine XS.istore X12.here hx rfl (hb hby at_285) rfl (l' := #[.val (.int u0), .val (.int u1), .val (.int u2), .val (.int u3), .val (.int u4), .val (.int nk0), .val (.int nk), .val (.long lx0), .second, .val (.long ly0), .second, .val (.long lx1), .second, .val (.long ly1), .second, .val (.long lx2), .second, .val (.long ly2), .second, .val (.long lx3), .second, .val (.long ly3), .second, .val (.ref b7), .val (.ref b8), .val (.ref b9), .val (.long c26), .second, .val (.long c28), .second, .val (.long c30), .second, .val (.long c32), .second, .val (.long c34), .second, .val (.long (0 : Int64)), .second, .val (.ref b7), .val (.int (1 : Int32))]) rfl ?_
    refine XS.lload X12.here hx rfl (hb hby at_287) rfl ?_
    refine XS.lconst X12.here hx rfl (hb hby at_289) ?_
    refine XS.lcmp X12.here hx rfl (hb hby at_290) rfl ?_
    refine XS.ifNo X12.here hx rfl (hb hby at_291) rfl ((if0 _ _).trans (flt (by decide)).1) ?_
    refine XS.aload X12.here hx rfl (hb hby at_294) rfl rfl ?_
    refine XS.aload X12.here hx rfl (hb hby at_296) rfl rfl ?_
    show Steps p.tables e below (T12.setTop (mkF m 298 #[.val (.int u0), .val (.int u1), .val (.int u2), .val (.int u3), .val (.int u4), .val (.int nk0), .val (.int nk), .val (.long lx0), .second, .val (.long ly0), .second, .val (.long lx1), .second, .val (.long ly1), .second, .val (.long lx2), .second, .val (.long ly2), .second, .val (.long lx3), .second, .val (.long ly3), .second, .val (.ref b7), .val (.ref b8), .val (.ref b9), .val (.long c26), .second, .val (.long c28), .second, .val (.long c30), .second, .val (.long c32), .second, .val (.long c34), .second, .val (.long (0 : Int64)), .second, .val (.ref b7), .val (.int (1 : Int32))] [(.ref b7), (.ref b7)])) _
    refine Jvm.RoadKit.acmp (g := (mkF m 298 #[.val (.int u0), .val (.int u1), .val (.int u2), .val (.int u3), .val (.int u4), .val (.int nk0), .val (.int nk), .val (.long lx0), .second, .val (.long ly0), .second, .val (.long lx1), .second, .val (.long ly1), .second, .val (.long lx2), .second, .val (.long ly2), .second, .val (.long lx3), .second, .val (.long ly3), .second, .val (.ref b7), .val (.ref b8), .val (.ref b9), .val (.long c26), .second, .val (.long c28), .second, .val (.long c30), .second, .val (.long c32), .second, .val (.long c34), .second, .val (.long (0 : Int64)), .second, .val (.ref b7), .val (.int (1 : Int32))] [(.ref b7), (.ref b7)])) X12 hx rfl rfl rfl (pc0 := 298) (pc' := 301) (same := true) rfl (hb hby at_298) rfl (decide_eq_true rfl) (by decide) (by decide) ?_
    show Steps p.tables e below (T12.setTop (mkF m 301 #[.val (.int u0), .val (.int u1), .val (.int u2), .val (.int u3), .val (.int u4), .val (.int nk0), .val (.int nk), .val (.long lx0), .second, .val (.long ly0), .second, .val (.long lx1), .second, .val (.long ly1), .second, .val (.long lx2), .second, .val (.long ly2), .second, .val (.long lx3), .second, .val (.long ly3), .second, .val (.ref b7), .val (.ref b8), .val (.ref b9), .val (.long c26), .second, .val (.long c28), .second, .val (.long c30), .second, .val (.long c32), .second, .val (.long c34), .second, .val (.long (0 : Int64)), .second, .val (.ref b7), .val (.int (1 : Int32))] [])) _
    refine XS.iload X12.here hx rfl (hb hby at_301) rfl ?_
    refine XS.ifNo X12.here hx rfl (hb hby at_303) rfl ((if0 _ _).trans (feq (by decide)).1) ?_
    refine XS.iconst X12.here hx rfl (hb hby at_306) ?_
    refine XS.goto X12.here hx rfl (pc0 := 307) (pc' := 311) rfl (hb hby at_307) (by decide) (by decide) ?_
    show Steps p.tables e below (T12.setTop (mkF m 311 #[.val (.int u0), .val (.int u1), .val (.int u2), .val (.int u3), .val (.int u4), .val (.int nk0), .val (.int nk), .val (.long lx0), .second, .val (.long ly0), .second, .val (.long lx1), .second, .val (.long ly1), .second, .val (.long lx2), .second, .val (.long ly2), .second, .val (.long lx3), .second, .val (.long ly3), .second, .val (.ref b7), .val (.ref b8), .val (.ref b9), .val (.long c26), .second, .val (.long c28), .second, .val (.long c30), .second, .val (.long c32), .second, .val (.long c34), .second, .val (.long (0 : Int64)), .second, .val (.ref b7), .val (.int (1 : Int32))] [(.int (1 : Int32))])) _
    exact retN X12 hx (t := .boolean) Bd.returns (by simp) (hb hby at_311) hr
  · show QL0 Z u0 u1 u2 u3 u4 h0 n0 _ T12.heap _
    rw [e12]
    exact ⟨rfl, N12⟩
theorem ef_L1 (m : MethodId) (u0 : Int32) (u1 : Int32) (u2 : Int32) (u3 : Int32) (u4 : Int32) : entryFrame m #[(.int u0), (.int u1), (.int u2), (.int u3), (.int u4)] maxLocals = mkF m 0 #[.val (.int u0), .val (.int u1), .val (.int u2), .val (.int u3), .val (.int u4), .unset, .unset, .unset, .unset, .unset, .unset, .unset, .unset, .unset, .unset, .unset, .unset, .unset, .unset, .unset, .unset, .unset, .unset, .unset, .unset, .unset, .unset, .unset, .unset, .unset, .unset, .unset, .unset, .unset, .unset, .unset, .unset, .unset, .unset, .unset] [] := by first | (simp [entryFrame, mkF, argsToLocals, Value.category, maxLocals]; done) | rfl
def QL1 (Z : State) (u0 : Int32) (u1 : Int32) (u2 : Int32) (u3 : Int32) (u4 : Int32) (h0 : Heap) (n0 : Nat) (v : Option Value) (h : Heap) (L : List Loc) : Prop := v = some (.int (1 : Int32)) ∧ Fr n0 L
set_option maxRecDepth 65536 in
set_option maxHeartbeats 40000000 in
theorem rmL1 (l : Launch) (Z : State) (a0 : Array Value) (hw : ∀ d ∈ tables_1, d.before a0 Z = true) (ws : List Jvm.Cond) (u0 : Int32) (u1 : Int32) (u2 : Int32) (u3 : Int32) (u4 : Int32) (h0 : Heap) (n0 : Nat) (Z0 : n0 ≤ h0.size) (hk : (if (4 : Int32) < (u4 &&& (7 : Int32)) then (4 : Int32) else (u4 &&& (7 : Int32))) = (1 : Int32)) :
    MetFree l x (head1 (Jvm.Cond.code x code maxLocals ret :: ws) room_1) (fun a U => a = #[(.int u0), (.int u1), (.int u2), (.int u3), (.int u4)] ∧ Z.Warmed39 U.vm ∧ U.heap = h0) (fun _ _ _ _ _ => True) (fun _ U o U' => ∃ v L, o = .returned v ∧ QL1 Z u0 u1 u2 u3 u4 h0 n0 v U'.heap L ∧ FrameEnd U o U' L room_1.cells room_1.slots) := by
  refine MetFree.of_bodySF (plainFor_of_name pn_com_example_decorum_decorum_graphics_RasterizerClockwisePinLaw) hisR ?_
  intro p e s m args below meth c s₁ Bd hml0 hP hK
  obtain ⟨rfl, hZ, hh⟩ := hP
  have hx := Bd.exec
  have hby := Bd.bytes
  have hml : c.maxLocals = 40 := hml0
  have hown : s.vm.findClass "com/example/decorum/decorum/graphics/RasterizerClockwisePinLaw" = some m.cls := findClass_of_methodNamed Bd.named
  have hnm := (name_of_methodNamed Bd.named Bd.method).1
  have X0 : Stand p l e room_1 s m #[(.int u0), (.int u1), (.int u2), (.int u3), (.int u4)] below meth c s₁ [] 0 0 := Stand.of_body Bd
  have e0 : s₁.heap = h0 := by rw [← hh, Bd.state]; rfl
  have N0 := Fr.nil n0
  have pre0 : ∀ t, Steps p.tables e below (s₁.setTop (mkF m 0 #[.val (.int u0), .val (.int u1), .val (.int u2), .val (.int u3), .val (.int u4), .unset, .unset, .unset, .unset, .unset, .unset, .unset, .unset, .unset, .unset, .unset, .unset, .unset, .unset, .unset, .unset, .unset, .unset, .unset, .unset, .unset, .unset, .unset, .unset, .unset, .unset, .unset, .unset, .unset, .unset, .unset, .unset, .unset, .unset, .unset] [])) t → Steps p.tables e below (s₁.setTop (entryFrame m #[(.int u0), (.int u1), (.int u2), (.int u3), (.int u4)] maxLocals)) t := fun t k => castTop (ef_L1 m u0 u1 u2 u3 u4) k
  obtain ⟨mv1_0, me1_0⟩ : ∃ z : Int32, z = (if (4 : Int32) < (u4 &&& (7 : Int32)) then (4 : Int32) else (u4 &&& (7 : Int32))) := ⟨_, rfl⟩
  have st1 : ∀ target, Steps p.tables e below (s₁.setTop (mkF m 19 #[.val (.int u0), .val (.int u1), .val (.int u2), .val (.int u3), .val (.int u4), .val (.int (u4 &&& (7 : Int32))), .unset, .unset, .unset, .unset, .unset, .unset, .unset, .unset, .unset, .unset, .unset, .unset, .unset, .unset, .unset, .unset, .unset, .unset, .unset, .unset, .unset, .unset, .unset, .unset, .unset, .unset, .unset, .unset, .unset, .unset, .unset, .unset, .unset, .unset] [(.int mv1_0)])) target → Steps p.tables e below (s₁.setTop (mkF m 7 #[.val (.int u0), .val (.int u1), .val (.int u2), .val (.int u3), .val (.int u4), .val (.int (u4 &&& (7 : Int32))), .unset, .unset, .unset, .unset, .unset, .unset, .unset, .unset, .unset, .unset, .unset, .unset, .unset, .unset, .unset, .unset, .unset, .unset, .unset, .unset, .unset, .unset, .unset, .unset, .unset, .unset, .unset, .unset, .unset, .unset, .unset, .unset, .unset, .unset] [])) target := by
    intro target kt
    rw [me1_0] at kt
    by_cases hc10 : (4 : Int32) < (u4 &&& (7 : Int32))
    · simp only [if_pos hc10] at kt
      refine XS.iload X0.here hx rfl (hb hby at_7) rfl ?_
      refine XS.iconst X0.here hx rfl (hb hby at_9) ?_
      refine XS.icmpNo X0.here hx rfl (hb hby at_10) rfl (tlt hc10).2.2.2 ?_
      refine XS.iconst X0.here hx rfl (hb hby at_13) ?_
      refine XS.goto X0.here hx rfl (pc0 := 14) (pc' := 19) rfl (hb hby at_14) (by decide) (by decide) ?_
      exact kt
    · simp only [if_neg hc10] at kt
      refine XS.iload X0.here hx rfl (hb hby at_7) rfl ?_
      refine XS.iconst X0.here hx rfl (hb hby at_9) ?_
      refine XS.icmpYes X0.here hx rfl (pc0 := 10) (pc' := 17) rfl (hb hby at_10) rfl (flt hc10).2.2.2 (by decide) (by decide) ?_
      refine XS.iload X0.here hx rfl (hb hby at_17) rfl ?_
      exact kt
  obtain ⟨lx0, elx0⟩ : ∃ z : Int64, z = ((u0 >>> ((16 : Int32) &&& 31)).toInt64) := ⟨_, rfl⟩
  obtain ⟨ly0, ely0⟩ : ∃ z : Int64, z = ((u0.toInt16.toInt32).toInt64) := ⟨_, rfl⟩
  have st2 : ∀ target, Steps p.tables e below (s₁.setTop (mkF m 33 #[.val (.int u0), .val (.int u1), .val (.int u2), .val (.int u3), .val (.int u4), .val (.int (u4 &&& (7 : Int32))), .val (.int mv1_0), .val (.long lx0), .second, .val (.long ly0), .second, .unset, .unset, .unset, .unset, .unset, .unset, .unset, .unset, .unset, .unset, .unset, .unset, .unset, .unset, .unset, .unset, .unset, .unset, .unset, .unset, .unset, .unset, .unset, .unset, .unset, .unset, .unset, .unset, .unset] [])) target → Steps p.tables e below (s₁.setTop (mkF m 33 #[.val (.int u0), .val (.int u1), .val (.int u2), .val (.int u3), .val (.int u4), .val (.int (u4 &&& (7 : Int32))), .val (.int mv1_0), .val (.long ((u0 >>> ((16 : Int32) &&& 31)).toInt64)), .second, .val (.long ((u0.toInt16.toInt32).toInt64)), .second, .unset, .unset, .unset, .unset, .unset, .unset, .unset, .unset, .unset, .unset, .unset, .unset, .unset, .unset, .unset, .unset, .unset, .unset, .unset, .unset, .unset, .unset, .unset, .unset, .unset, .unset, .unset, .unset, .unset] [])) target := by intro target kt; rw [elx0, ely0] at kt; exact kt
  obtain ⟨lx1, elx1⟩ : ∃ z : Int64, z = ((u1 >>> ((16 : Int32) &&& 31)).toInt64) := ⟨_, rfl⟩
  obtain ⟨ly1, ely1⟩ : ∃ z : Int64, z = ((u1.toInt16.toInt32).toInt64) := ⟨_, rfl⟩
  have st3 : ∀ target, Steps p.tables e below (s₁.setTop (mkF m 45 #[.val (.int u0), .val (.int u1), .val (.int u2), .val (.int u3), .val (.int u4), .val (.int (u4 &&& (7 : Int32))), .val (.int mv1_0), .val (.long lx0), .second, .val (.long ly0), .second, .val (.long lx1), .second, .val (.long ly1), .second, .unset, .unset, .unset, .unset, .unset, .unset, .unset, .unset, .unset, .unset, .unset, .unset, .unset, .unset, .unset, .unset, .unset, .unset, .unset, .unset, .unset, .unset, .unset, .unset, .unset] [])) target → Steps p.tables e below (s₁.setTop (mkF m 45 #[.val (.int u0), .val (.int u1), .val (.int u2), .val (.int u3), .val (.int u4), .val (.int (u4 &&& (7 : Int32))), .val (.int mv1_0), .val (.long lx0), .second, .val (.long ly0), .second, .val (.long ((u1 >>> ((16 : Int32) &&& 31)).toInt64)), .second, .val (.long ((u1.toInt16.toInt32).toInt64)), .second, .unset, .unset, .unset, .unset, .unset, .unset, .unset, .unset, .unset, .unset, .unset, .unset, .unset, .unset, .unset, .unset, .unset, .unset, .unset, .unset, .unset, .unset, .unset, .unset, .unset] [])) target := by intro target kt; rw [elx1, ely1] at kt; exact kt
  obtain ⟨lx2, elx2⟩ : ∃ z : Int64, z = ((u2 >>> ((16 : Int32) &&& 31)).toInt64) := ⟨_, rfl⟩
  obtain ⟨ly2, ely2⟩ : ∃ z : Int64, z = ((u2.toInt16.toInt32).toInt64) := ⟨_, rfl⟩
  have st4 : ∀ target, Steps p.tables e below (s₁.setTop (mkF m 57 #[.val (.int u0), .val (.int u1), .val (.int u2), .val (.int u3), .val (.int u4), .val (.int (u4 &&& (7 : Int32))), .val (.int mv1_0), .val (.long lx0), .second, .val (.long ly0), .second, .val (.long lx1), .second, .val (.long ly1), .second, .val (.long lx2), .second, .val (.long ly2), .second, .unset, .unset, .unset, .unset, .unset, .unset, .unset, .unset, .unset, .unset, .unset, .unset, .unset, .unset, .unset, .unset, .unset, .unset, .unset, .unset, .unset] [])) target → Steps p.tables e below (s₁.setTop (mkF m 57 #[.val (.int u0), .val (.int u1), .val (.int u2), .val (.int u3), .val (.int u4), .val (.int (u4 &&& (7 : Int32))), .val (.int mv1_0), .val (.long lx0), .second, .val (.long ly0), .second, .val (.long lx1), .second, .val (.long ly1), .second, .val (.long ((u2 >>> ((16 : Int32) &&& 31)).toInt64)), .second, .val (.long ((u2.toInt16.toInt32).toInt64)), .second, .unset, .unset, .unset, .unset, .unset, .unset, .unset, .unset, .unset, .unset, .unset, .unset, .unset, .unset, .unset, .unset, .unset, .unset, .unset, .unset, .unset] [])) target := by intro target kt; rw [elx2, ely2] at kt; exact kt
  obtain ⟨lx3, elx3⟩ : ∃ z : Int64, z = ((u3 >>> ((16 : Int32) &&& 31)).toInt64) := ⟨_, rfl⟩
  obtain ⟨ly3, ely3⟩ : ∃ z : Int64, z = ((u3.toInt16.toInt32).toInt64) := ⟨_, rfl⟩
  have st5 : ∀ target, Steps p.tables e below (s₁.setTop (mkF m 69 #[.val (.int u0), .val (.int u1), .val (.int u2), .val (.int u3), .val (.int u4), .val (.int (u4 &&& (7 : Int32))), .val (.int mv1_0), .val (.long lx0), .second, .val (.long ly0), .second, .val (.long lx1), .second, .val (.long ly1), .second, .val (.long lx2), .second, .val (.long ly2), .second, .val (.long lx3), .second, .val (.long ly3), .second, .unset, .unset, .unset, .unset, .unset, .unset, .unset, .unset, .unset, .unset, .unset, .unset, .unset, .unset, .unset, .unset, .unset] [])) target → Steps p.tables e below (s₁.setTop (mkF m 69 #[.val (.int u0), .val (.int u1), .val (.int u2), .val (.int u3), .val (.int u4), .val (.int (u4 &&& (7 : Int32))), .val (.int mv1_0), .val (.long lx0), .second, .val (.long ly0), .second, .val (.long lx1), .second, .val (.long ly1), .second, .val (.long lx2), .second, .val (.long ly2), .second, .val (.long ((u3 >>> ((16 : Int32) &&& 31)).toInt64)), .second, .val (.long ((u3.toInt16.toInt32).toInt64)), .second, .unset, .unset, .unset, .unset, .unset, .unset, .unset, .unset, .unset, .unset, .unset, .unset, .unset, .unset, .unset, .unset, .unset] [])) target := by intro target kt; rw [elx3, ely3] at kt; exact kt
  obtain ⟨nk0, enk0⟩ : ∃ z : Int32, z = (u4 &&& (7 : Int32)) := ⟨_, rfl⟩
  obtain ⟨nk, enk⟩ : ∃ z : Int32, z = mv1_0 := ⟨_, rfl⟩
  have st6 : ∀ target, Steps p.tables e below (s₁.setTop (mkF m 69 #[.val (.int u0), .val (.int u1), .val (.int u2), .val (.int u3), .val (.int u4), .val (.int nk0), .val (.int nk), .val (.long lx0), .second, .val (.long ly0), .second, .val (.long lx1), .second, .val (.long ly1), .second, .val (.long lx2), .second, .val (.long ly2), .second, .val (.long lx3), .second, .val (.long ly3), .second, .unset, .unset, .unset, .unset, .unset, .unset, .unset, .unset, .unset, .unset, .unset, .unset, .unset, .unset, .unset, .unset, .unset] [])) target → Steps p.tables e below (s₁.setTop (mkF m 69 #[.val (.int u0), .val (.int u1), .val (.int u2), .val (.int u3), .val (.int u4), .val (.int (u4 &&& (7 : Int32))), .val (.int mv1_0), .val (.long lx0), .second, .val (.long ly0), .second, .val (.long lx1), .second, .val (.long ly1), .second, .val (.long lx2), .second, .val (.long ly2), .second, .val (.long lx3), .second, .val (.long ly3), .second, .unset, .unset, .unset, .unset, .unset, .unset, .unset, .unset, .unset, .unset, .unset, .unset, .unset, .unset, .unset, .unset, .unset] [])) target := by intro target kt; rw [enk, enk0] at kt; exact kt
  have hnk : nk = (1 : Int32) := enk.trans (me1_0.trans hk)
  obtain ⟨xda0, Lx0⟩ : ∃ i, LI i 32768 lx0 := ⟨_, elx0 ▸ LI.shr u0⟩
  obtain ⟨da0, eda0⟩ : ∃ z, z = FP.l2d lx0 := ⟨_, rfl⟩
  have Dda0 := LI.d Lx0 eda0 (by decide)
  obtain ⟨xdq0, Ly0⟩ : ∃ i, LI i 32768 ly0 := ⟨_, ely0 ▸ LI.i2s u0⟩
  obtain ⟨dq0, edq0⟩ : ∃ z, z = FP.l2d ly0 := ⟨_, rfl⟩
  have Ddq0 := LI.d Ly0 edq0 (by decide)
  obtain ⟨xda1, Lx1⟩ : ∃ i, LI i 32768 lx1 := ⟨_, elx1 ▸ LI.shr u1⟩
  obtain ⟨da1, eda1⟩ : ∃ z, z = FP.l2d lx1 := ⟨_, rfl⟩
  have Dda1 := LI.d Lx1 eda1 (by decide)
  obtain ⟨xdq1, Ly1⟩ : ∃ i, LI i 32768 ly1 := ⟨_, ely1 ▸ LI.i2s u1⟩
  obtain ⟨dq1, edq1⟩ : ∃ z, z = FP.l2d ly1 := ⟨_, rfl⟩
  have Ddq1 := LI.d Ly1 edq1 (by decide)
  obtain ⟨xda2, Lx2⟩ : ∃ i, LI i 32768 lx2 := ⟨_, elx2 ▸ LI.shr u2⟩
  obtain ⟨da2, eda2⟩ : ∃ z, z = FP.l2d lx2 := ⟨_, rfl⟩
  have Dda2 := LI.d Lx2 eda2 (by decide)
  obtain ⟨xdq2, Ly2⟩ : ∃ i, LI i 32768 ly2 := ⟨_, ely2 ▸ LI.i2s u2⟩
  obtain ⟨dq2, edq2⟩ : ∃ z, z = FP.l2d ly2 := ⟨_, rfl⟩
  have Ddq2 := LI.d Ly2 edq2 (by decide)
  obtain ⟨xda3, Lx3⟩ : ∃ i, LI i 32768 lx3 := ⟨_, elx3 ▸ LI.shr u3⟩
  obtain ⟨da3, eda3⟩ : ∃ z, z = FP.l2d lx3 := ⟨_, rfl⟩
  have Dda3 := LI.d Lx3 eda3 (by decide)
  obtain ⟨xdq3, Ly3⟩ : ∃ i, LI i 32768 ly3 := ⟨_, ely3 ▸ LI.i2s u3⟩
  obtain ⟨dq3, edq3⟩ : ∃ z, z = FP.l2d ly3 := ⟨_, rfl⟩
  have Ddq3 := LI.d Ly3 edq3 (by decide)
  have hB : ¬ (((0 : Int) + ((xda0 * xdq0) - (xda0 * xdq0))) < 0) := by omega
  obtain ⟨_, _, ⟨T7, L7, k7, n7⟩, -, X7, ⟨Lc7, hQ7, l7, y7, z7⟩, st7⟩ := Jvm.LawKit.callS X0 hx (y := (⟨"com/example/decorum/decorum/graphics/RasterizerClockwisePinLaw", "build", "(IJJJJJJJJ)[D"⟩ : MethodName)) hown (mvT hZ (hw _ (List.mem_of_getElem? (i := 0) rfl))) (mvT hZ (hw _ (List.mem_of_getElem? (i := 1) rfl))) (mvT hZ (hw _ (List.mem_of_getElem? (i := 2) rfl))) (mvT hZ (hw _ (List.mem_of_getElem? (i := 3) rfl))) (by decide) (backOf (W := 0) (rmB1 l Z a0 hw [] nk lx0 ly0 lx1 ly1 lx2 ly2 lx3 ly3 da0 dq0 h0 n0 Z0 hnk eda0 edq0) hZ (hw _ (List.mem_of_getElem? (i := 3) rfl)) (hw _ (List.mem_of_getElem? (i := 2) rfl)) (by decide) (by decide)) (g := (mkF m 87 #[.val (.int u0), .val (.int u1), .val (.int u2), .val (.int u3), .val (.int u4), .val (.int nk0), .val (.int nk), .val (.long lx0), .second, .val (.long ly0), .second, .val (.long lx1), .second, .val (.long ly1), .second, .val (.long lx2), .second, .val (.long ly2), .second, .val (.long lx3), .second, .val (.long ly3), .second, .unset, .unset, .unset, .unset, .unset, .unset, .unset, .unset, .unset, .unset, .unset, .unset, .unset, .unset, .unset, .unset, .unset] [(.long ly3), (.long lx3), (.long ly2), (.long lx2), (.long ly1), (.long lx1), (.long ly0), (.long lx0), (.int nk)])) rfl (by rw [hml]; rfl) (argsL := [(.int nk), (.long lx0), (.long ly0), (.long lx1), (.long ly1), (.long lx2), (.long ly2), (.long lx3), (.long ly3)]) (rest := []) (lenOf pd_0 rfl) rfl (by show 2 * 0 + _ ≤ _; exact Nat.le_of_eq rfl) (hb hby at_87) (fun _ _ => ⟨rfl, e0, (by decide : 0 + 1 ≤ _), (by decide : 0 + 2 ≤ _)⟩)
  dsimp only [Pt.U, Pt.locs, Pt.cells, Pt.slots] at X7 l7 y7 z7 st7 hQ7
  replace y7 : k7 = 1 := y7
  replace z7 : n7 = 2 := z7
  rw [y7, z7] at X7
  obtain ⟨hv7, N7q, K7, kk7, V7⟩ := hQ7
  obtain ⟨b7, g7⟩ : ∃ z, z = h0.size := ⟨_, rfl⟩
  rw [← g7] at hv7 V7
  subst hv7
  have g_b7 : n0 ≤ b7 := Nat.le_trans Z0 (Nat.le_of_eq g7.symm)
  have sz_b7 : h0.size ≤ b7 := Nat.le_trans (Keep.refl h0 []).1 (Nat.le_of_eq g7.symm)
  have N7 : Fr n0 L7 := l7 ▸ Fr.app N0 N7q
  have Z7 : n0 ≤ T7.heap.size := Nat.le_trans Z0 K7.1
  have KK7 := (Keep.refl h0 []).trans K7 all0
  obtain ⟨_, _, ⟨T8, L8, k8, n8⟩, -, X8, ⟨Lc8, hQ8, l8, y8, z8⟩, st8⟩ := Jvm.LawKit.callS X7 hx (y := (⟨"com/example/decorum/decorum/graphics/RasterizerClockwisePinLaw", "build", "(IJJJJJJJJ)[D"⟩ : MethodName)) hown (mvT hZ (hw _ (List.mem_of_getElem? (i := 0) rfl))) (mvT hZ (hw _ (List.mem_of_getElem? (i := 1) rfl))) (mvT hZ (hw _ (List.mem_of_getElem? (i := 2) rfl))) (mvT hZ (hw _ (List.mem_of_getElem? (i := 3) rfl))) (by decide) (backOf (W := 0) (rmB1 l Z a0 hw [] nk lx0 ly0 lx1 ly1 lx2 ly2 lx3 ly3 da0 dq0 T7.heap n0 Z7 hnk eda0 edq0) hZ (hw _ (List.mem_of_getElem? (i := 3) rfl)) (hw _ (List.mem_of_getElem? (i := 2) rfl)) (by decide) (by decide)) (g := (mkF m 110 #[.val (.int u0), .val (.int u1), .val (.int u2), .val (.int u3), .val (.int u4), .val (.int nk0), .val (.int nk), .val (.long lx0), .second, .val (.long ly0), .second, .val (.long lx1), .second, .val (.long ly1), .second, .val (.long lx2), .second, .val (.long ly2), .second, .val (.long lx3), .second, .val (.long ly3), .second, .val (.ref b7), .unset, .unset, .unset, .unset, .unset, .unset, .unset, .unset, .unset, .unset, .unset, .unset, .unset, .unset, .unset, .unset] [(.long ly3), (.long lx3), (.long ly2), (.long lx2), (.long ly1), (.long lx1), (.long ly0), (.long lx0), (.int nk)])) rfl (by rw [hml]; rfl) (argsL := [(.int nk), (.long lx0), (.long ly0), (.long lx1), (.long ly1), (.long lx2), (.long ly2), (.long lx3), (.long ly3)]) (rest := []) (lenOf pd_0 rfl) rfl (by show 2 * 0 + _ ≤ _; exact Nat.le_of_eq rfl) (hb hby at_110) (fun _ _ => ⟨rfl, rfl, (by decide : 1 + 1 ≤ _), (by decide : 2 + 2 ≤ _)⟩)
  dsimp only [Pt.U, Pt.locs, Pt.cells, Pt.slots] at X8 l8 y8 z8 st8 hQ8
  replace y8 : k8 = 2 := y8
  replace z8 : n8 = 4 := z8
  rw [y8, z8] at X8
  obtain ⟨hv8, N8q, K8, kk8, V8⟩ := hQ8
  obtain ⟨b8, g8⟩ : ∃ z, z = T7.heap.size := ⟨_, rfl⟩
  rw [← g8] at hv8 V8
  subst hv8
  have g_b8 : n0 ≤ b8 := Nat.le_trans Z7 (Nat.le_of_eq g8.symm)
  have sz_b8 : h0.size ≤ b8 := Nat.le_trans KK7.1 (Nat.le_of_eq g8.symm)
  have N8 : Fr n0 L8 := l8 ▸ Fr.app N7 N8q
  have Z8 : n0 ≤ T8.heap.size := Nat.le_trans Z7 K8.1
  have KK8 := KK7.trans K8 all0
  obtain ⟨_, _, ⟨T9, L9, k9, n9⟩, -, X9, ⟨Lc9, hQ9, l9, y9, z9⟩, st9⟩ := Jvm.LawKit.callS X8 hx (y := (⟨"com/example/decorum/decorum/graphics/RasterizerClockwisePinLaw", "build", "(IJJJJJJJJ)[D"⟩ : MethodName)) hown (mvT hZ (hw _ (List.mem_of_getElem? (i := 0) rfl))) (mvT hZ (hw _ (List.mem_of_getElem? (i := 1) rfl))) (mvT hZ (hw _ (List.mem_of_getElem? (i := 2) rfl))) (mvT hZ (hw _ (List.mem_of_getElem? (i := 3) rfl))) (by decide) (backOf (W := 0) (rmB1 l Z a0 hw [] nk lx2 ly2 lx1 ly1 lx0 ly0 (0 : Int64) (0 : Int64) da2 dq2 T8.heap n0 Z8 hnk eda2 edq2) hZ (hw _ (List.mem_of_getElem? (i := 3) rfl)) (hw _ (List.mem_of_getElem? (i := 2) rfl)) (by decide) (by decide)) (g := (mkF m 160 #[.val (.int u0), .val (.int u1), .val (.int u2), .val (.int u3), .val (.int u4), .val (.int nk0), .val (.int nk), .val (.long lx0), .second, .val (.long ly0), .second, .val (.long lx1), .second, .val (.long ly1), .second, .val (.long lx2), .second, .val (.long ly2), .second, .val (.long lx3), .second, .val (.long ly3), .second, .val (.ref b7), .val (.ref b8), .unset, .unset, .unset, .unset, .unset, .unset, .unset, .unset, .unset, .unset, .unset, .unset, .unset, .unset, .unset] [(.long (0 : Int64)), (.long (0 : Int64)), (.long ly0), (.long lx0), (.long ly1), (.long lx1), (.long ly2), (.long lx2), (.int nk)])) rfl (by rw [hml]; rfl) (argsL := [(.int nk), (.long lx2), (.long ly2), (.long lx1), (.long ly1), (.long lx0), (.long ly0), (.long (0 : Int64)), (.long (0 : Int64))]) (rest := []) (lenOf pd_0 rfl) rfl (by show 2 * 0 + _ ≤ _; exact Nat.le_of_eq rfl) (hb hby at_160) (fun _ _ => ⟨rfl, rfl, (by decide : 2 + 1 ≤ _), (by decide : 4 + 2 ≤ _)⟩)
  dsimp only [Pt.U, Pt.locs, Pt.cells, Pt.slots] at X9 l9 y9 z9 st9 hQ9
  replace y9 : k9 = 3 := y9
  replace z9 : n9 = 6 := z9
  rw [y9, z9] at X9
  obtain ⟨hv9, N9q, K9, kk9, V9⟩ := hQ9
  obtain ⟨b9, g9⟩ : ∃ z, z = T8.heap.size := ⟨_, rfl⟩
  rw [← g9] at hv9 V9
  subst hv9
  have g_b9 : n0 ≤ b9 := Nat.le_trans Z8 (Nat.le_of_eq g9.symm)
  have sz_b9 : h0.size ≤ b9 := Nat.le_trans KK8.1 (Nat.le_of_eq g9.symm)
  have N9 : Fr n0 L9 := l9 ▸ Fr.app N8 N9q
  have Z9 : n0 ≤ T9.heap.size := Nat.le_trans Z8 K9.1
  have KK9 := KK8.trans K9 all0
  obtain ⟨c26, ec26⟩ : ∃ z : Int64, z = ((lx0 * ly1) - (lx1 * ly0)) := ⟨_, rfl⟩
  obtain ⟨c28, ec28⟩ : ∃ z : Int64, z = ((lx1 * ly2) - (lx2 * ly1)) := ⟨_, rfl⟩
  obtain ⟨c30, ec30⟩ : ∃ z : Int64, z = ((lx2 * ly0) - (lx0 * ly2)) := ⟨_, rfl⟩
  obtain ⟨c32, ec32⟩ : ∃ z : Int64, z = ((lx2 * ly3) - (lx3 * ly2)) := ⟨_, rfl⟩
  obtain ⟨c34, ec34⟩ : ∃ z : Int64, z = ((lx3 * ly0) - (lx0 * ly3)) := ⟨_, rfl⟩
  have st10 : ∀ target, Steps p.tables e below (T9.setTop (mkF m 230 #[.val (.int u0), .val (.int u1), .val (.int u2), .val (.int u3), .val (.int u4), .val (.int nk0), .val (.int nk), .val (.long lx0), .second, .val (.long ly0), .second, .val (.long lx1), .second, .val (.long ly1), .second, .val (.long lx2), .second, .val (.long ly2), .second, .val (.long lx3), .second, .val (.long ly3), .second, .val (.ref b7), .val (.ref b8), .val (.ref b9), .val (.long c26), .second, .val (.long c28), .second, .val (.long c30), .second, .val (.long c32), .second, .val (.long c34), .second, .unset, .unset, .unset, .unset] [])) target → Steps p.tables e below (T9.setTop (mkF m 230 #[.val (.int u0), .val (.int u1), .val (.int u2), .val (.int u3), .val (.int u4), .val (.int nk0), .val (.int nk), .val (.long lx0), .second, .val (.long ly0), .second, .val (.long lx1), .second, .val (.long ly1), .second, .val (.long lx2), .second, .val (.long ly2), .second, .val (.long lx3), .second, .val (.long ly3), .second, .val (.ref b7), .val (.ref b8), .val (.ref b9), .val (.long ((lx0 * ly1) - (lx1 * ly0))), .second, .val (.long ((lx1 * ly2) - (lx2 * ly1))), .second, .val (.long ((lx2 * ly0) - (lx0 * ly2))), .second, .val (.long ((lx2 * ly3) - (lx3 * ly2))), .second, .val (.long ((lx3 * ly0) - (lx0 * ly3))), .second, .unset, .unset, .unset, .unset] [])) target := by intro target kt; rw [ec26, ec28, ec30, ec32, ec34] at kt; exact kt
  obtain ⟨_, _, ⟨T11, L11, k11, n11⟩, -, X11, ⟨Lc11, hQ11, l11, y11, z11⟩, st11⟩ := Jvm.LawKit.callS X9 hx (y := (⟨"com/example/decorum/decorum/graphics/Rasterizer", "clockwise", "([D)[D"⟩ : MethodName)) hown (mvT hZ (hw _ (List.mem_of_getElem? (i := 5) rfl))) (mvT hZ (hw _ (List.mem_of_getElem? (i := 6) rfl))) (mvT hZ (hw _ (List.mem_of_getElem? (i := 7) rfl))) (mvT hZ (hw _ (List.mem_of_getElem? (i := 8) rfl))) (by decide) (backOf (W := 0) (rmC1 l Z a0 hw [] b7 kk7 da0 dq0 xda0 xdq0 T9.heap n0 Z9 ((V7.keep K8 nin0).keep K9 nin0) Dda0 Ddq0 hB) hZ (hw _ (List.mem_of_getElem? (i := 8) rfl)) (hw _ (List.mem_of_getElem? (i := 7) rfl)) (by decide) (by decide)) (g := (mkF m 273 #[.val (.int u0), .val (.int u1), .val (.int u2), .val (.int u3), .val (.int u4), .val (.int nk0), .val (.int nk), .val (.long lx0), .second, .val (.long ly0), .second, .val (.long lx1), .second, .val (.long ly1), .second, .val (.long lx2), .second, .val (.long ly2), .second, .val (.long lx3), .second, .val (.long ly3), .second, .val (.ref b7), .val (.ref b8), .val (.ref b9), .val (.long c26), .second, .val (.long c28), .second, .val (.long c30), .second, .val (.long c32), .second, .val (.long c34), .second, .val (.long (0 : Int64)), .second, .unset, .unset] [(.ref b7)])) rfl (by rw [hml]; rfl) (argsL := [(.ref b7)]) (rest := []) (lenOf pd_1 rfl) rfl (by show 2 * 0 + _ ≤ _; exact Nat.le_of_eq rfl) (hb hby at_273) (fun _ _ => ⟨rfl, rfl, (by decide : 3 + 0 ≤ _), (by decide : 6 + 0 ≤ _)⟩)
  dsimp only [Pt.U, Pt.locs, Pt.cells, Pt.slots] at X11 l11 y11 z11 st11 hQ11
  replace y11 : k11 = 3 := y11
  replace z11 : n11 = 6 := z11
  rw [y11, z11] at X11
  obtain ⟨rfl, N11q, e11⟩ := hQ11
  have N11 : Fr n0 L11 := l11 ▸ Fr.app N9 N11q
  obtain ⟨_, _, ⟨T12, L12, k12, n12⟩, -, X12, ⟨Lc12, hQ12, l12, y12, z12⟩, st12⟩ := Jvm.LawKit.callS X11 hx (y := (⟨"com/example/decorum/decorum/graphics/RasterizerClockwisePinLaw", "same", "([D[D)Z"⟩ : MethodName)) hown (mvT hZ (hw _ (List.mem_of_getElem? (i := 9) rfl))) (mvT hZ (hw _ (List.mem_of_getElem? (i := 10) rfl))) (mvT hZ (hw _ (List.mem_of_getElem? (i := 2) rfl))) (mvT hZ (hw _ (List.mem_of_getElem? (i := 11) rfl))) (by decide) (backOf (W := 0) (rmS1 l Z a0 hw [] b7 b8 kk7 kk8 da0 dq0 T9.heap n0 Z9 ((V7.keep K8 nin0).keep K9 nin0) (V8.keep K9 nin0) Dda0.nn Ddq0.nn) hZ (hw _ (List.mem_of_getElem? (i := 11) rfl)) (hw _ (List.mem_of_getElem? (i := 2) rfl)) (by decide) (by decide)) (g := (mkF m 282 #[.val (.int u0), .val (.int u1), .val (.int u2), .val (.int u3), .val (.int u4), .val (.int nk0), .val (.int nk), .val (.long lx0), .second, .val (.long ly0), .second, .val (.long lx1), .second, .val (.long ly1), .second, .val (.long lx2), .second, .val (.long ly2), .second, .val (.long lx3), .second, .val (.long ly3), .second, .val (.ref b7), .val (.ref b8), .val (.ref b9), .val (.long c26), .second, .val (.long c28), .second, .val (.long c30), .second, .val (.long c32), .second, .val (.long c34), .second, .val (.long (0 : Int64)), .second, .val (.ref b7), .unset] [(.ref b8), (.ref b7)])) rfl (by rw [hml]; rfl) (argsL := [(.ref b7), (.ref b8)]) (rest := []) (lenOf pd_2 rfl) rfl (by show 2 * 0 + _ ≤ _; exact Nat.le_of_eq rfl) (hb hby at_282) (fun _ _ => ⟨rfl, e11, (by decide : 3 + 0 ≤ _), (by decide : 6 + 0 ≤ _)⟩)
  dsimp only [Pt.U, Pt.locs, Pt.cells, Pt.slots] at X12 l12 y12 z12 st12 hQ12
  replace y12 : k12 = 3 := y12
  replace z12 : n12 = 6 := z12
  rw [y12, z12] at X12
  obtain ⟨rfl, N12q, e12⟩ := hQ12
  have N12 : Fr n0 L12 := l12 ▸ Fr.app N11 N12q
  obtain ⟨fs, hr, hrun, hended, hW, hsame⟩ := X12.leave (v := some (.int (1 : Int32))) (fun h => by rw [Bd.returns] at h; cases h)
  refine ⟨_, _, pre0 _ ?_, hrun, hended, _, _, rfl, ?_, ⟨_, rfl⟩, hW, hsame.mono (by decide) (by decide)⟩
  · show Steps p.tables e below (s₁.setTop (mkF m 0 #[.val (.int u0), .val (.int u1), .val (.int u2), .val (.int u3), .val (.int u4), .unset, .unset, .unset, .unset, .unset, .unset, .unset, .unset, .unset, .unset, .unset, .unset, .unset, .unset, .unset, .unset, .unset, .unset, .unset, .unset, .unset, .unset, .unset, .unset, .unset, .unset, .unset, .unset, .unset, .unset, .unset, .unset, .unset, .unset, .unset] [])) _
    refine XS.iload X0.here hx rfl (hb hby at_0) rfl ?_
    refine XS.bipush X0.here hx rfl (hb hby at_2) ?_
    show Steps p.tables e below (s₁.setTop (mkF m 4 #[.val (.int u0), .val (.int u1), .val (.int u2), .val (.int u3), .val (.int u4), .unset, .unset, .unset, .unset, .unset, .unset, .unset, .unset, .unset, .unset, .unset, .unset, .unset, .unset, .unset, .unset, .unset, .unset, .unset, .unset, .unset, .unset, .unset, .unset, .unset, .unset, .unset, .unset, .unset, .unset, .unset, .unset, .unset, .unset, .unset] [(.int (7 : Int32)), (.int u4)])) _
    refine XS.iand X0.here hx rfl (hb hby at_4) rfl ?_
    show Steps p.tables e below (s₁.setTop (mkF m 5 #[.val (.int u0), .val (.int u1), .val (.int u2), .val (.int u3), .val (.int u4), .unset, .unset, .unset, .unset, .unset, .unset, .unset, .unset, .unset, .unset, .unset, .unset, .unset, .unset, .unset, .unset, .unset, .unset, .unset, .unset, .unset, .unset, .unset, .unset, .unset, .unset, .unset, .unset, .unset, .unset, .unset, .unset, .unset, .unset, .unset] [(.int (u4 &&& (7 : Int32)))])) _
    refine XS.istore X0.here hx rfl (hb hby at_5) rfl (l' := #[.val (.int u0), .val (.int u1), .val (.int u2), .val (.int u3), .val (.int u4), .val (.int (u4 &&& (7 : Int32))), .unset, .unset, .unset, .unset, .unset, .unset, .unset, .unset, .unset, .unset, .unset, .unset, .unset, .unset, .unset, .unset, .unset, .unset, .unset, .unset, .unset, .unset, .unset, .unset, .unset, .unset, .unset, .unset, .unset, .unset, .unset, .unset, .unset, .unset]) rfl ?_
    refine st1 _ ?_
    refine XS.istore X0.here hx rfl (hb hby at_19) rfl (l' := #[.val (.int u0), .val (.int u1), .val (.int u2), .val (.int u3), .val (.int u4), .val (.int (u4 &&& (7 : Int32))), .val (.int mv1_0), .unset, .unset, .unset, .unset, .unset, .unset, .unset, .unset, .unset, .unset, .unset, .unset, .unset, .unset, .unset, .unset, .unset, .unset, .unset, .unset, .unset, .unset, .unset, .unset, .unset, .unset, .unset, .unset, .unset, .unset, .unset, .unset, .unset]) rfl ?_
    refine XS.iloadN X0.here hx rfl (hb hby at_21) rfl ?_
    refine XS.bipush X0.here hx rfl (hb hby at_22) ?_
    refine XS.ishr X0.here hx rfl (hb hby at_24) rfl ?_
    refine XS.i2l X0.here hx rfl (hb hby at_25) rfl ?_
    refine XS.lstore X0.here hx rfl (hb hby at_26) rfl (l' := #[.val (.int u0), .val (.int u1), .val (.int u2), .val (.int u3), .val (.int u4), .val (.int (u4 &&& (7 : Int32))), .val (.int mv1_0), .val (.long ((u0 >>> ((16 : Int32) &&& 31)).toInt64)), .second, .unset, .unset, .unset, .unset, .unset, .unset, .unset, .unset, .unset, .unset, .unset, .unset, .unset, .unset, .unset, .unset, .unset, .unset, .unset, .unset, .unset, .unset, .unset, .unset, .unset, .unset, .unset, .unset, .unset, .unset, .unset]) rfl ?_
    refine XS.iloadN X0.here hx rfl (hb hby at_28) rfl ?_
    refine XS.i2s X0.here hx rfl (hb hby at_29) rfl ?_
    refine XS.i2l X0.here hx rfl (hb hby at_30) rfl ?_
    refine XS.lstore X0.here hx rfl (hb hby at_31) rfl (l' := #[.val (.int u0), .val (.int u1), .val (.int u2), .val (.int u3), .val (.int u4), .val (.int (u4 &&& (7 : Int32))), .val (.int mv1_0), .val (.long ((u0 >>> ((16 : Int32) &&& 31)).toInt64)), .second, .val (.long ((u0.toInt16.toInt32).toInt64)), .second, .unset, .unset, .unset, .unset, .unset, .unset, .unset, .unset, .unset, .unset, .unset, .unset, .unset, .unset, .unset, .unset, .unset, .unset, .unset, .unset, .unset, .unset, .unset, .unset, .unset, .unset, .unset, .unset, .unset]) rfl ?_
    refine st2 _ ?_
    show Steps p.tables e below (s₁.setTop (mkF m 33 #[.val (.int u0), .val (.int u1), .val (.int u2), .val (.int u3), .val (.int u4), .val (.int (u4 &&& (7 : Int32))), .val (.int mv1_0), .val (.long lx0), .second, .val (.long ly0), .second, .unset, .unset, .unset, .unset, .unset, .unset, .unset, .unset, .unset, .unset, .unset, .unset, .unset, .unset, .unset, .unset, .unset, .unset, .unset, .unset, .unset, .unset, .unset, .unset, .unset, .unset, .unset, .unset, .unset] [])) _
    refine XS.iloadN X0.here hx rfl (hb hby at_33) rfl ?_
    refine XS.bipush X0.here hx rfl (hb hby at_34) ?_
    refine XS.ishr X0.here hx rfl (hb hby at_36) rfl ?_
    refine XS.i2l X0.here hx rfl (hb hby at_37) rfl ?_
    refine XS.lstore X0.here hx rfl (hb hby at_38) rfl (l' := #[.val (.int u0), .val (.int u1), .val (.int u2), .val (.int u3), .val (.int u4), .val (.int (u4 &&& (7 : Int32))), .val (.int mv1_0), .val (.long lx0), .second, .val (.long ly0), .second, .val (.long ((u1 >>> ((16 : Int32) &&& 31)).toInt64)), .second, .unset, .unset, .unset, .unset, .unset, .unset, .unset, .unset, .unset, .unset, .unset, .unset, .unset, .unset, .unset, .unset, .unset, .unset, .unset, .unset, .unset, .unset, .unset, .unset, .unset, .unset, .unset]) rfl ?_
    refine XS.iloadN X0.here hx rfl (hb hby at_40) rfl ?_
    refine XS.i2s X0.here hx rfl (hb hby at_41) rfl ?_
    refine XS.i2l X0.here hx rfl (hb hby at_42) rfl ?_
    refine XS.lstore X0.here hx rfl (hb hby at_43) rfl (l' := #[.val (.int u0), .val (.int u1), .val (.int u2), .val (.int u3), .val (.int u4), .val (.int (u4 &&& (7 : Int32))), .val (.int mv1_0), .val (.long lx0), .second, .val (.long ly0), .second, .val (.long ((u1 >>> ((16 : Int32) &&& 31)).toInt64)), .second, .val (.long ((u1.toInt16.toInt32).toInt64)), .second, .unset, .unset, .unset, .unset, .unset, .unset, .unset, .unset, .unset, .unset, .unset, .unset, .unset, .unset, .unset, .unset, .unset, .unset, .unset, .unset, .unset, .unset, .unset, .unset, .unset]) rfl ?_
    refine st3 _ ?_
    show Steps p.tables e below (s₁.setTop (mkF m 45 #[.val (.int u0), .val (.int u1), .val (.int u2), .val (.int u3), .val (.int u4), .val (.int (u4 &&& (7 : Int32))), .val (.int mv1_0), .val (.long lx0), .second, .val (.long ly0), .second, .val (.long lx1), .second, .val (.long ly1), .second, .unset, .unset, .unset, .unset, .unset, .unset, .unset, .unset, .unset, .unset, .unset, .unset, .unset, .unset, .unset, .unset, .unset, .unset, .unset, .unset, .unset, .unset, .unset, .unset, .unset] [])) _
    refine XS.iloadN X0.here hx rfl (hb hby at_45) rfl ?_
    refine XS.bipush X0.here hx rfl (hb hby at_46) ?_
    refine XS.ishr X0.here hx rfl (hb hby at_48) rfl ?_
    refine XS.i2l X0.here hx rfl (hb hby at_49) rfl ?_
    refine XS.lstore X0.here hx rfl (hb hby at_50) rfl (l' := #[.val (.int u0), .val (.int u1), .val (.int u2), .val (.int u3), .val (.int u4), .val (.int (u4 &&& (7 : Int32))), .val (.int mv1_0), .val (.long lx0), .second, .val (.long ly0), .second, .val (.long lx1), .second, .val (.long ly1), .second, .val (.long ((u2 >>> ((16 : Int32) &&& 31)).toInt64)), .second, .unset, .unset, .unset, .unset, .unset, .unset, .unset, .unset, .unset, .unset, .unset, .unset, .unset, .unset, .unset, .unset, .unset, .unset, .unset, .unset, .unset, .unset, .unset]) rfl ?_
    refine XS.iloadN X0.here hx rfl (hb hby at_52) rfl ?_
    refine XS.i2s X0.here hx rfl (hb hby at_53) rfl ?_
    refine XS.i2l X0.here hx rfl (hb hby at_54) rfl ?_
    refine XS.lstore X0.here hx rfl (hb hby at_55) rfl (l' := #[.val (.int u0), .val (.int u1), .val (.int u2), .val (.int u3), .val (.int u4), .val (.int (u4 &&& (7 : Int32))), .val (.int mv1_0), .val (.long lx0), .second, .val (.long ly0), .second, .val (.long lx1), .second, .val (.long ly1), .second, .val (.long ((u2 >>> ((16 : Int32) &&& 31)).toInt64)), .second, .val (.long ((u2.toInt16.toInt32).toInt64)), .second, .unset, .unset, .unset, .unset, .unset, .unset, .unset, .unset, .unset, .unset, .unset, .unset, .unset, .unset, .unset, .unset, .unset, .unset, .unset, .unset, .unset]) rfl ?_
    refine st4 _ ?_
    show Steps p.tables e below (s₁.setTop (mkF m 57 #[.val (.int u0), .val (.int u1), .val (.int u2), .val (.int u3), .val (.int u4), .val (.int (u4 &&& (7 : Int32))), .val (.int mv1_0), .val (.long lx0), .second, .val (.long ly0), .second, .val (.long lx1), .second, .val (.long ly1), .second, .val (.long lx2), .second, .val (.long ly2), .second, .unset, .unset, .unset, .unset, .unset, .unset, .unset, .unset, .unset, .unset, .unset, .unset, .unset, .unset, .unset, .unset, .unset, .unset, .unset, .unset, .unset] [])) _
    refine XS.iloadN X0.here hx rfl (hb hby at_57) rfl ?_
    refine XS.bipush X0.here hx rfl (hb hby at_58) ?_
    refine XS.ishr X0.here hx rfl (hb hby at_60) rfl ?_
    refine XS.i2l X0.here hx rfl (hb hby at_61) rfl ?_
    refine XS.lstore X0.here hx rfl (hb hby at_62) rfl (l' := #[.val (.int u0), .val (.int u1), .val (.int u2), .val (.int u3), .val (.int u4), .val (.int (u4 &&& (7 : Int32))), .val (.int mv1_0), .val (.long lx0), .second, .val (.long ly0), .second, .val (.long lx1), .second, .val (.long ly1), .second, .val (.long lx2), .second, .val (.long ly2), .second, .val (.long ((u3 >>> ((16 : Int32) &&& 31)).toInt64)), .second, .unset, .unset, .unset, .unset, .unset, .unset, .unset, .unset, .unset, .unset, .unset, .unset, .unset, .unset, .unset, .unset, .unset, .unset, .unset]) rfl ?_
    refine XS.iloadN X0.here hx rfl (hb hby at_64) rfl ?_
    refine XS.i2s X0.here hx rfl (hb hby at_65) rfl ?_
    refine XS.i2l X0.here hx rfl (hb hby at_66) rfl ?_
    refine XS.lstore X0.here hx rfl (hb hby at_67) rfl (l' := #[.val (.int u0), .val (.int u1), .val (.int u2), .val (.int u3), .val (.int u4), .val (.int (u4 &&& (7 : Int32))), .val (.int mv1_0), .val (.long lx0), .second, .val (.long ly0), .second, .val (.long lx1), .second, .val (.long ly1), .second, .val (.long lx2), .second, .val (.long ly2), .second, .val (.long ((u3 >>> ((16 : Int32) &&& 31)).toInt64)), .second, .val (.long ((u3.toInt16.toInt32).toInt64)), .second, .unset, .unset, .unset, .unset, .unset, .unset, .unset, .unset, .unset, .unset, .unset, .unset, .unset, .unset, .unset, .unset, .unset]) rfl ?_
    refine st5 _ ?_
    refine st6 _ ?_
    show Steps p.tables e below (s₁.setTop (mkF m 69 #[.val (.int u0), .val (.int u1), .val (.int u2), .val (.int u3), .val (.int u4), .val (.int nk0), .val (.int nk), .val (.long lx0), .second, .val (.long ly0), .second, .val (.long lx1), .second, .val (.long ly1), .second, .val (.long lx2), .second, .val (.long ly2), .second, .val (.long lx3), .second, .val (.long ly3), .second, .unset, .unset, .unset, .unset, .unset, .unset, .unset, .unset, .unset, .unset, .unset, .unset, .unset, .unset, .unset, .unset, .unset] [])) _
    refine XS.iload X0.here hx rfl (hb hby at_69) rfl ?_
    refine XS.lload X0.here hx rfl (hb hby at_71) rfl ?_
    refine XS.lload X0.here hx rfl (hb hby at_73) rfl ?_
    refine XS.lload X0.here hx rfl (hb hby at_75) rfl ?_
    refine XS.lload X0.here hx rfl (hb hby at_77) rfl ?_
    refine XS.lload X0.here hx rfl (hb hby at_79) rfl ?_
    refine XS.lload X0.here hx rfl (hb hby at_81) rfl ?_
    refine XS.lload X0.here hx rfl (hb hby at_83) rfl ?_
    refine XS.lload X0.here hx rfl (hb hby at_85) rfl ?_
    refine st7 _ ?_
    show Steps p.tables e below (T7.setTop (mkF m 90 #[.val (.int u0), .val (.int u1), .val (.int u2), .val (.int u3), .val (.int u4), .val (.int nk0), .val (.int nk), .val (.long lx0), .second, .val (.long ly0), .second, .val (.long lx1), .second, .val (.long ly1), .second, .val (.long lx2), .second, .val (.long ly2), .second, .val (.long lx3), .second, .val (.long ly3), .second, .unset, .unset, .unset, .unset, .unset, .unset, .unset, .unset, .unset, .unset, .unset, .unset, .unset, .unset, .unset, .unset, .unset] [(.ref b7)])) _
    refine XS.astore X7.here hx rfl (hb hby at_90) rfl rfl (l' := #[.val (.int u0), .val (.int u1), .val (.int u2), .val (.int u3), .val (.int u4), .val (.int nk0), .val (.int nk), .val (.long lx0), .second, .val (.long ly0), .second, .val (.long lx1), .second, .val (.long ly1), .second, .val (.long lx2), .second, .val (.long ly2), .second, .val (.long lx3), .second, .val (.long ly3), .second, .val (.ref b7), .unset, .unset, .unset, .unset, .unset, .unset, .unset, .unset, .unset, .unset, .unset, .unset, .unset, .unset, .unset, .unset]) rfl ?_
    refine XS.iload X7.here hx rfl (hb hby at_92) rfl ?_
    refine XS.lload X7.here hx rfl (hb hby at_94) rfl ?_
    refine XS.lload X7.here hx rfl (hb hby at_96) rfl ?_
    refine XS.lload X7.here hx rfl (hb hby at_98) rfl ?_
    refine XS.lload X7.here hx rfl (hb hby at_100) rfl ?_
    refine XS.lload X7.here hx rfl (hb hby at_102) rfl ?_
    refine XS.lload X7.here hx rfl (hb hby at_104) rfl ?_
    refine XS.lload X7.here hx rfl (hb hby at_106) rfl ?_
    refine XS.lload X7.here hx rfl (hb hby at_108) rfl ?_
    refine st8 _ ?_
    show Steps p.tables e below (T8.setTop (mkF m 113 #[.val (.int u0), .val (.int u1), .val (.int u2), .val (.int u3), .val (.int u4), .val (.int nk0), .val (.int nk), .val (.long lx0), .second, .val (.long ly0), .second, .val (.long lx1), .second, .val (.long ly1), .second, .val (.long lx2), .second, .val (.long ly2), .second, .val (.long lx3), .second, .val (.long ly3), .second, .val (.ref b7), .unset, .unset, .unset, .unset, .unset, .unset, .unset, .unset, .unset, .unset, .unset, .unset, .unset, .unset, .unset, .unset] [(.ref b8)])) _
    refine XS.astore X8.here hx rfl (hb hby at_113) rfl rfl (l' := #[.val (.int u0), .val (.int u1), .val (.int u2), .val (.int u3), .val (.int u4), .val (.int nk0), .val (.int nk), .val (.long lx0), .second, .val (.long ly0), .second, .val (.long lx1), .second, .val (.long ly1), .second, .val (.long lx2), .second, .val (.long ly2), .second, .val (.long lx3), .second, .val (.long ly3), .second, .val (.ref b7), .val (.ref b8), .unset, .unset, .unset, .unset, .unset, .unset, .unset, .unset, .unset, .unset, .unset, .unset, .unset, .unset, .unset]) rfl ?_
    refine XS.iload X8.here hx rfl (hb hby at_115) rfl ?_
    refine XS.iconst X8.here hx rfl (hb hby at_117) ?_
    refine XS.icmpYes X8.here hx rfl (pc0 := 118) (pc' := 144) rfl (hb hby at_118) rfl (feq (by rw [hnk]; decide)).2 (by decide) (by decide) ?_
    refine XS.iload X8.here hx rfl (hb hby at_144) rfl ?_
    refine XS.lload X8.here hx rfl (hb hby at_146) rfl ?_
    refine XS.lload X8.here hx rfl (hb hby at_148) rfl ?_
    refine XS.lload X8.here hx rfl (hb hby at_150) rfl ?_
    refine XS.lload X8.here hx rfl (hb hby at_152) rfl ?_
    refine XS.lload X8.here hx rfl (hb hby at_154) rfl ?_
    refine XS.lload X8.here hx rfl (hb hby at_156) rfl ?_
    refine XS.lconst X8.here hx rfl (hb hby at_158) ?_
    refine XS.lconst X8.here hx rfl (hb hby at_159) ?_
    refine st9 _ ?_
    show Steps p.tables e below (T9.setTop (mkF m 163 #[.val (.int u0), .val (.int u1), .val (.int u2), .val (.int u3), .val (.int u4), .val (.int nk0), .val (.int nk), .val (.long lx0), .second, .val (.long ly0), .second, .val (.long lx1), .second, .val (.long ly1), .second, .val (.long lx2), .second, .val (.long ly2), .second, .val (.long lx3), .second, .val (.long ly3), .second, .val (.ref b7), .val (.ref b8), .unset, .unset, .unset, .unset, .unset, .unset, .unset, .unset, .unset, .unset, .unset, .unset, .unset, .unset, .unset] [(.ref b9)])) _
    refine XS.astore X9.here hx rfl (hb hby at_163) rfl rfl (l' := #[.val (.int u0), .val (.int u1), .val (.int u2), .val (.int u3), .val (.int u4), .val (.int nk0), .val (.int nk), .val (.long lx0), .second, .val (.long ly0), .second, .val (.long lx1), .second, .val (.long ly1), .second, .val (.long lx2), .second, .val (.long ly2), .second, .val (.long lx3), .second, .val (.long ly3), .second, .val (.ref b7), .val (.ref b8), .val (.ref b9), .unset, .unset, .unset, .unset, .unset, .unset, .unset, .unset, .unset, .unset, .unset, .unset, .unset, .unset]) rfl ?_
    refine XS.lload X9.here hx rfl (hb hby at_165) rfl ?_
    refine XS.lload X9.here hx rfl (hb hby at_167) rfl ?_
    refine XS.lmul X9.here hx rfl (hb hby at_169) rfl ?_
    refine XS.lload X9.here hx rfl (hb hby at_170) rfl ?_
    refine XS.lload X9.here hx rfl (hb hby at_172) rfl ?_
    refine XS.lmul X9.here hx rfl (hb hby at_174) rfl ?_
    refine XS.lsub X9.here hx rfl (hb hby at_175) rfl ?_
    refine XS.lstore X9.here hx rfl (hb hby at_176) rfl (l' := #[.val (.int u0), .val (.int u1), .val (.int u2), .val (.int u3), .val (.int u4), .val (.int nk0), .val (.int nk), .val (.long lx0), .second, .val (.long ly0), .second, .val (.long lx1), .second, .val (.long ly1), .second, .val (.long lx2), .second, .val (.long ly2), .second, .val (.long lx3), .second, .val (.long ly3), .second, .val (.ref b7), .val (.ref b8), .val (.ref b9), .val (.long ((lx0 * ly1) - (lx1 * ly0))), .second, .unset, .unset, .unset, .unset, .unset, .unset, .unset, .unset, .unset, .unset, .unset, .unset]) rfl ?_
    refine XS.lload X9.here hx rfl (hb hby at_178) rfl ?_
    refine XS.lload X9.here hx rfl (hb hby at_180) rfl ?_
    refine XS.lmul X9.here hx rfl (hb hby at_182) rfl ?_
    refine XS.lload X9.here hx rfl (hb hby at_183) rfl ?_
    refine XS.lload X9.here hx rfl (hb hby at_185) rfl ?_
    refine XS.lmul X9.here hx rfl (hb hby at_187) rfl ?_
    refine XS.lsub X9.here hx rfl (hb hby at_188) rfl ?_
    refine XS.lstore X9.here hx rfl (hb hby at_189) rfl (l' := #[.val (.int u0), .val (.int u1), .val (.int u2), .val (.int u3), .val (.int u4), .val (.int nk0), .val (.int nk), .val (.long lx0), .second, .val (.long ly0), .second, .val (.long lx1), .second, .val (.long ly1), .second, .val (.long lx2), .second, .val (.long ly2), .second, .val (.long lx3), .second, .val (.long ly3), .second, .val (.ref b7), .val (.ref b8), .val (.ref b9), .val (.long ((lx0 * ly1) - (lx1 * ly0))), .second, .val (.long ((lx1 * ly2) - (lx2 * ly1))), .second, .unset, .unset, .unset, .unset, .unset, .unset, .unset, .unset, .unset, .unset]) rfl ?_
    refine XS.lload X9.here hx rfl (hb hby at_191) rfl ?_
    refine XS.lload X9.here hx rfl (hb hby at_193) rfl ?_
    refine XS.lmul X9.here hx rfl (hb hby at_195) rfl ?_
    refine XS.lload X9.here hx rfl (hb hby at_196) rfl ?_
    refine XS.lload X9.here hx rfl (hb hby at_198) rfl ?_
    refine XS.lmul X9.here hx rfl (hb hby at_200) rfl ?_
    refine XS.lsub X9.here hx rfl (hb hby at_201) rfl ?_
    refine XS.lstore X9.here hx rfl (hb hby at_202) rfl (l' := #[.val (.int u0), .val (.int u1), .val (.int u2), .val (.int u3), .val (.int u4), .val (.int nk0), .val (.int nk), .val (.long lx0), .second, .val (.long ly0), .second, .val (.long lx1), .second, .val (.long ly1), .second, .val (.long lx2), .second, .val (.long ly2), .second, .val (.long lx3), .second, .val (.long ly3), .second, .val (.ref b7), .val (.ref b8), .val (.ref b9), .val (.long ((lx0 * ly1) - (lx1 * ly0))), .second, .val (.long ((lx1 * ly2) - (lx2 * ly1))), .second, .val (.long ((lx2 * ly0) - (lx0 * ly2))), .second, .unset, .unset, .unset, .unset, .unset, .unset, .unset, .unset]) rfl ?_
    show Steps p.tables e below (T9.setTop (mkF m 204 #[.val (.int u0), .val (.int u1), .val (.int u2), .val (.int u3), .val (.int u4), .val (.int nk0), .val (.int nk), .val (.long lx0), .second, .val (.long ly0), .second, .val (.long lx1), .second, .val (.long ly1), .second, .val (.long lx2), .second, .val (.long ly2), .second, .val (.long lx3), .second, .val (.long ly3), .second, .val (.ref b7), .val (.ref b8), .val (.ref b9), .val (.long ((lx0 * ly1) - (lx1 * ly0))), .second, .val (.long ((lx1 * ly2) - (lx2 * ly1))), .second, .val (.long ((lx2 * ly0) - (lx0 * ly2))), .second, .unset, .unset, .unset, .unset, .unset, .unset, .unset, .unset] [])) _
    refine XS.lload X9.here hx rfl (hb hby at_204) rfl ?_
    refine XS.lload X9.here hx rfl (hb hby at_206) rfl ?_
    refine XS.lmul X9.here hx rfl (hb hby at_208) rfl ?_
    refine XS.lload X9.here hx rfl (hb hby at_209) rfl ?_
    refine XS.lload X9.here hx rfl (hb hby at_211) rfl ?_
    refine XS.lmul X9.here hx rfl (hb hby at_213) rfl ?_
    refine XS.lsub X9.here hx rfl (hb hby at_214) rfl ?_
    refine XS.lstore X9.here hx rfl (hb hby at_215) rfl (l' := #[.val (.int u0), .val (.int u1), .val (.int u2), .val (.int u3), .val (.int u4), .val (.int nk0), .val (.int nk), .val (.long lx0), .second, .val (.long ly0), .second, .val (.long lx1), .second, .val (.long ly1), .second, .val (.long lx2), .second, .val (.long ly2), .second, .val (.long lx3), .second, .val (.long ly3), .second, .val (.ref b7), .val (.ref b8), .val (.ref b9), .val (.long ((lx0 * ly1) - (lx1 * ly0))), .second, .val (.long ((lx1 * ly2) - (lx2 * ly1))), .second, .val (.long ((lx2 * ly0) - (lx0 * ly2))), .second, .val (.long ((lx2 * ly3) - (lx3 * ly2))), .second, .unset, .unset, .unset, .unset, .unset, .unset]) rfl ?_
    refine XS.lload X9.here hx rfl (hb hby at_217) rfl ?_
    refine XS.lload X9.here hx rfl (hb hby at_219) rfl ?_
    refine XS.lmul X9.here hx rfl (hb hby at_221) rfl ?_
    refine XS.lload X9.here hx rfl (hb hby at_222) rfl ?_
    refine XS.lload X9.here hx rfl (hb hby at_224) rfl ?_
    refine XS.lmul X9.here hx rfl (hb hby at_226) rfl ?_
    refine XS.lsub X9.here hx rfl (hb hby at_227) rfl ?_
    refine XS.lstore X9.here hx rfl (hb hby at_228) rfl (l' := #[.val (.int u0), .val (.int u1), .val (.int u2), .val (.int u3), .val (.int u4), .val (.int nk0), .val (.int nk), .val (.long lx0), .second, .val (.long ly0), .second, .val (.long lx1), .second, .val (.long ly1), .second, .val (.long lx2), .second, .val (.long ly2), .second, .val (.long lx3), .second, .val (.long ly3), .second, .val (.ref b7), .val (.ref b8), .val (.ref b9), .val (.long ((lx0 * ly1) - (lx1 * ly0))), .second, .val (.long ((lx1 * ly2) - (lx2 * ly1))), .second, .val (.long ((lx2 * ly0) - (lx0 * ly2))), .second, .val (.long ((lx2 * ly3) - (lx3 * ly2))), .second, .val (.long ((lx3 * ly0) - (lx0 * ly3))), .second, .unset, .unset, .unset, .unset]) rfl ?_
    refine st10 _ ?_
    show Steps p.tables e below (T9.setTop (mkF m 230 #[.val (.int u0), .val (.int u1), .val (.int u2), .val (.int u3), .val (.int u4), .val (.int nk0), .val (.int nk), .val (.long lx0), .second, .val (.long ly0), .second, .val (.long lx1), .second, .val (.long ly1), .second, .val (.long lx2), .second, .val (.long ly2), .second, .val (.long lx3), .second, .val (.long ly3), .second, .val (.ref b7), .val (.ref b8), .val (.ref b9), .val (.long c26), .second, .val (.long c28), .second, .val (.long c30), .second, .val (.long c32), .second, .val (.long c34), .second, .unset, .unset, .unset, .unset] [])) _
    refine XS.lconst X9.here hx rfl (hb hby at_230) ?_
    refine XS.lstore X9.here hx rfl (hb hby at_231) rfl (l' := #[.val (.int u0), .val (.int u1), .val (.int u2), .val (.int u3), .val (.int u4), .val (.int nk0), .val (.int nk), .val (.long lx0), .second, .val (.long ly0), .second, .val (.long lx1), .second, .val (.long ly1), .second, .val (.long lx2), .second, .val (.long ly2), .second, .val (.long lx3), .second, .val (.long ly3), .second, .val (.ref b7), .val (.ref b8), .val (.ref b9), .val (.long c26), .second, .val (.long c28), .second, .val (.long c30), .second, .val (.long c32), .second, .val (.long c34), .second, .val (.long (0 : Int64)), .second, .unset, .unset]) rfl ?_
    refine XS.iload X9.here hx rfl (hb hby at_233) rfl ?_
    refine XS.iconst X9.here hx rfl (hb hby at_235) ?_
    refine XS.icmpYes X9.here hx rfl (pc0 := 236) (pc' := 252) rfl (hb hby at_236) rfl (feq (by rw [hnk]; decide)).2 (by decide) (by decide) ?_
    refine XS.iload X9.here hx rfl (hb hby at_252) rfl ?_
    refine XS.iconst X9.here hx rfl (hb hby at_254) ?_
    refine XS.icmpYes X9.here hx rfl (pc0 := 255) (pc' := 271) rfl (hb hby at_255) rfl (feq (by rw [hnk]; decide)).2 (by decide) (by decide) ?_
    refine XS.aload X9.here hx rfl (hb hby at_271) rfl rfl ?_
    refine st11 _ ?_
    show Steps p.tables e below (T11.setTop (mkF m 276 #[.val (.int u0), .val (.int u1), .val (.int u2), .val (.int u3), .val (.int u4), .val (.int nk0), .val (.int nk), .val (.long lx0), .second, .val (.long ly0), .second, .val (.long lx1), .second, .val (.long ly1), .second, .val (.long lx2), .second, .val (.long ly2), .second, .val (.long lx3), .second, .val (.long ly3), .second, .val (.ref b7), .val (.ref b8), .val (.ref b9), .val (.long c26), .second, .val (.long c28), .second, .val (.long c30), .second, .val (.long c32), .second, .val (.long c34), .second, .val (.long (0 : Int64)), .second, .unset, .unset] [(.ref b7)])) _
    refine XS.astore X11.here hx rfl (hb hby at_276) rfl rfl (l' := #[.val (.int u0), .val (.int u1), .val (.int u2), .val (.int u3), .val (.int u4), .val (.int nk0), .val (.int nk), .val (.long lx0), .second, .val (.long ly0), .second, .val (.long lx1), .second, .val (.long ly1), .second, .val (.long lx2), .second, .val (.long ly2), .second, .val (.long lx3), .second, .val (.long ly3), .second, .val (.ref b7), .val (.ref b8), .val (.ref b9), .val (.long c26), .second, .val (.long c28), .second, .val (.long c30), .second, .val (.long c32), .second, .val (.long c34), .second, .val (.long (0 : Int64)), .second, .val (.ref b7), .unset]) rfl ?_
    refine XS.aload X11.here hx rfl (hb hby at_278) rfl rfl ?_
    refine XS.aload X11.here hx rfl (hb hby at_280) rfl rfl ?_
    refine st12 _ ?_
    show Steps p.tables e below (T12.setTop (mkF m 285 #[.val (.int u0), .val (.int u1), .val (.int u2), .val (.int u3), .val (.int u4), .val (.int nk0), .val (.int nk), .val (.long lx0), .second, .val (.long ly0), .second, .val (.long lx1), .second, .val (.long ly1), .second, .val (.long lx2), .second, .val (.long ly2), .second, .val (.long lx3), .second, .val (.long ly3), .second, .val (.ref b7), .val (.ref b8), .val (.ref b9), .val (.long c26), .second, .val (.long c28), .second, .val (.long c30), .second, .val (.long c32), .second, .val (.long c34), .second, .val (.long (0 : Int64)), .second, .val (.ref b7), .unset] [(.int (1 : Int32))])) _
    refine XS.istore X12.here hx rfl (hb hby at_285) rfl (l' := #[.val (.int u0), .val (.int u1), .val (.int u2), .val (.int u3), .val (.int u4), .val (.int nk0), .val (.int nk), .val (.long lx0), .second, .val (.long ly0), .second, .val (.long lx1), .second, .val (.long ly1), .second, .val (.long lx2), .second, .val (.long ly2), .second, .val (.long lx3), .second, .val (.long ly3), .second, .val (.ref b7), .val (.ref b8), .val (.ref b9), .val (.long c26), .second, .val (.long c28), .second, .val (.long c30), .second, .val (.long c32), .second, .val (.long c34), .second, .val (.long (0 : Int64)), .second, .val (.ref b7), .val (.int (1 : Int32))]) rfl ?_
    refine XS.lload X12.here hx rfl (hb hby at_287) rfl ?_
    refine XS.lconst X12.here hx rfl (hb hby at_289) ?_
    refine XS.lcmp X12.here hx rfl (hb hby at_290) rfl ?_
    refine XS.ifNo X12.here hx rfl (hb hby at_291) rfl ((if0 _ _).trans (flt (by decide)).1) ?_
    refine XS.aload X12.here hx rfl (hb hby at_294) rfl rfl ?_
    refine XS.aload X12.here hx rfl (hb hby at_296) rfl rfl ?_
    show Steps p.tables e below (T12.setTop (mkF m 298 #[.val (.int u0), .val (.int u1), .val (.int u2), .val (.int u3), .val (.int u4), .val (.int nk0), .val (.int nk), .val (.long lx0), .second, .val (.long ly0), .second, .val (.long lx1), .second, .val (.long ly1), .second, .val (.long lx2), .second, .val (.long ly2), .second, .val (.long lx3), .second, .val (.long ly3), .second, .val (.ref b7), .val (.ref b8), .val (.ref b9), .val (.long c26), .second, .val (.long c28), .second, .val (.long c30), .second, .val (.long c32), .second, .val (.long c34), .second, .val (.long (0 : Int64)), .second, .val (.ref b7), .val (.int (1 : Int32))] [(.ref b7), (.ref b7)])) _
    refine Jvm.RoadKit.acmp (g := (mkF m 298 #[.val (.int u0), .val (.int u1), .val (.int u2), .val (.int u3), .val (.int u4), .val (.int nk0), .val (.int nk), .val (.long lx0), .second, .val (.long ly0), .second, .val (.long lx1), .second, .val (.long ly1), .second, .val (.long lx2), .second, .val (.long ly2), .second, .val (.long lx3), .second, .val (.long ly3), .second, .val (.ref b7), .val (.ref b8), .val (.ref b9), .val (.long c26), .second, .val (.long c28), .second, .val (.long c30), .second, .val (.long c32), .second, .val (.long c34), .second, .val (.long (0 : Int64)), .second, .val (.ref b7), .val (.int (1 : Int32))] [(.ref b7), (.ref b7)])) X12 hx rfl rfl rfl (pc0 := 298) (pc' := 301) (same := true) rfl (hb hby at_298) rfl (decide_eq_true rfl) (by decide) (by decide) ?_
    show Steps p.tables e below (T12.setTop (mkF m 301 #[.val (.int u0), .val (.int u1), .val (.int u2), .val (.int u3), .val (.int u4), .val (.int nk0), .val (.int nk), .val (.long lx0), .second, .val (.long ly0), .second, .val (.long lx1), .second, .val (.long ly1), .second, .val (.long lx2), .second, .val (.long ly2), .second, .val (.long lx3), .second, .val (.long ly3), .second, .val (.ref b7), .val (.ref b8), .val (.ref b9), .val (.long c26), .second, .val (.long c28), .second, .val (.long c30), .second, .val (.long c32), .second, .val (.long c34), .second, .val (.long (0 : Int64)), .second, .val (.ref b7), .val (.int (1 : Int32))] [])) _
    refine XS.iload X12.here hx rfl (hb hby at_301) rfl ?_
    refine XS.ifNo X12.here hx rfl (hb hby at_303) rfl ((if0 _ _).trans (feq (by decide)).1) ?_
    refine XS.iconst X12.here hx rfl (hb hby at_306) ?_
    refine XS.goto X12.here hx rfl (pc0 := 307) (pc' := 311) rfl (hb hby at_307) (by decide) (by decide) ?_
    show Steps p.tables e below (T12.setTop (mkF m 311 #[.val (.int u0), .val (.int u1), .val (.int u2), .val (.int u3), .val (.int u4), .val (.int nk0), .val (.int nk), .val (.long lx0), .second, .val (.long ly0), .second, .val (.long lx1), .second, .val (.long ly1), .second, .val (.long lx2), .second, .val (.long ly2), .second, .val (.long lx3), .second, .val (.long ly3), .second, .val (.ref b7), .val (.ref b8), .val (.ref b9), .val (.long c26), .second, .val (.long c28), .second, .val (.long c30), .second, .val (.long c32), .second, .val (.long c34), .second, .val (.long (0 : Int64)), .second, .val (.ref b7), .val (.int (1 : Int32))] [(.int (1 : Int32))])) _
    exact retN X12 hx (t := .boolean) Bd.returns (by simp) (hb hby at_311) hr
  · show QL1 Z u0 u1 u2 u3 u4 h0 n0 _ T12.heap _
    rw [e12]
    exact ⟨rfl, N12⟩
theorem ef_L2 (m : MethodId) (u0 : Int32) (u1 : Int32) (u2 : Int32) (u3 : Int32) (u4 : Int32) : entryFrame m #[(.int u0), (.int u1), (.int u2), (.int u3), (.int u4)] maxLocals = mkF m 0 #[.val (.int u0), .val (.int u1), .val (.int u2), .val (.int u3), .val (.int u4), .unset, .unset, .unset, .unset, .unset, .unset, .unset, .unset, .unset, .unset, .unset, .unset, .unset, .unset, .unset, .unset, .unset, .unset, .unset, .unset, .unset, .unset, .unset, .unset, .unset, .unset, .unset, .unset, .unset, .unset, .unset, .unset, .unset, .unset, .unset] [] := by first | (simp [entryFrame, mkF, argsToLocals, Value.category, maxLocals]; done) | rfl
def QL2 (Z : State) (u0 : Int32) (u1 : Int32) (u2 : Int32) (u3 : Int32) (u4 : Int32) (h0 : Heap) (n0 : Nat) (v : Option Value) (h : Heap) (L : List Loc) : Prop := v = some (.int (1 : Int32)) ∧ Fr n0 L
set_option maxRecDepth 65536 in
set_option maxHeartbeats 40000000 in
theorem rmL2 (l : Launch) (Z : State) (a0 : Array Value) (hw : ∀ d ∈ tables_1, d.before a0 Z = true) (ws : List Jvm.Cond) (u0 : Int32) (u1 : Int32) (u2 : Int32) (u3 : Int32) (u4 : Int32) (h0 : Heap) (n0 : Nat) (Z0 : n0 ≤ h0.size) (hk : (if (4 : Int32) < (u4 &&& (7 : Int32)) then (4 : Int32) else (u4 &&& (7 : Int32))) = (2 : Int32)) :
    MetFree l x (head1 (Jvm.Cond.code x code maxLocals ret :: ws) room_1) (fun a U => a = #[(.int u0), (.int u1), (.int u2), (.int u3), (.int u4)] ∧ Z.Warmed39 U.vm ∧ U.heap = h0) (fun _ _ _ _ _ => True) (fun _ U o U' => ∃ v L, o = .returned v ∧ QL2 Z u0 u1 u2 u3 u4 h0 n0 v U'.heap L ∧ FrameEnd U o U' L room_1.cells room_1.slots) := by
  refine MetFree.of_bodySF (plainFor_of_name pn_com_example_decorum_decorum_graphics_RasterizerClockwisePinLaw) hisR ?_
  intro p e s m args below meth c s₁ Bd hml0 hP hK
  obtain ⟨rfl, hZ, hh⟩ := hP
  have hx := Bd.exec
  have hby := Bd.bytes
  have hml : c.maxLocals = 40 := hml0
  have hown : s.vm.findClass "com/example/decorum/decorum/graphics/RasterizerClockwisePinLaw" = some m.cls := findClass_of_methodNamed Bd.named
  have hnm := (name_of_methodNamed Bd.named Bd.method).1
  have X0 : Stand p l e room_1 s m #[(.int u0), (.int u1), (.int u2), (.int u3), (.int u4)] below meth c s₁ [] 0 0 := Stand.of_body Bd
  have e0 : s₁.heap = h0 := by rw [← hh, Bd.state]; rfl
  have N0 := Fr.nil n0
  have pre0 : ∀ t, Steps p.tables e below (s₁.setTop (mkF m 0 #[.val (.int u0), .val (.int u1), .val (.int u2), .val (.int u3), .val (.int u4), .unset, .unset, .unset, .unset, .unset, .unset, .unset, .unset, .unset, .unset, .unset, .unset, .unset, .unset, .unset, .unset, .unset, .unset, .unset, .unset, .unset, .unset, .unset, .unset, .unset, .unset, .unset, .unset, .unset, .unset, .unset, .unset, .unset, .unset, .unset] [])) t → Steps p.tables e below (s₁.setTop (entryFrame m #[(.int u0), (.int u1), (.int u2), (.int u3), (.int u4)] maxLocals)) t := fun t k => castTop (ef_L2 m u0 u1 u2 u3 u4) k
  obtain ⟨mv1_0, me1_0⟩ : ∃ z : Int32, z = (if (4 : Int32) < (u4 &&& (7 : Int32)) then (4 : Int32) else (u4 &&& (7 : Int32))) := ⟨_, rfl⟩
  have st1 : ∀ target, Steps p.tables e below (s₁.setTop (mkF m 19 #[.val (.int u0), .val (.int u1), .val (.int u2), .val (.int u3), .val (.int u4), .val (.int (u4 &&& (7 : Int32))), .unset, .unset, .unset, .unset, .unset, .unset, .unset, .unset, .unset, .unset, .unset, .unset, .unset, .unset, .unset, .unset, .unset, .unset, .unset, .unset, .unset, .unset, .unset, .unset, .unset, .unset, .unset, .unset, .unset, .unset, .unset, .unset, .unset, .unset] [(.int mv1_0)])) target → Steps p.tables e below (s₁.setTop (mkF m 7 #[.val (.int u0), .val (.int u1), .val (.int u2), .val (.int u3), .val (.int u4), .val (.int (u4 &&& (7 : Int32))), .unset, .unset, .unset, .unset, .unset, .unset, .unset, .unset, .unset, .unset, .unset, .unset, .unset, .unset, .unset, .unset, .unset, .unset, .unset, .unset, .unset, .unset, .unset, .unset, .unset, .unset, .unset, .unset, .unset, .unset, .unset, .unset, .unset, .unset] [])) target := by
    intro target kt
    rw [me1_0] at kt
    by_cases hc10 : (4 : Int32) < (u4 &&& (7 : Int32))
    · simp only [if_pos hc10] at kt
      refine XS.iload X0.here hx rfl (hb hby at_7) rfl ?_
      refine XS.iconst X0.here hx rfl (hb hby at_9) ?_
      refine XS.icmpNo X0.here hx rfl (hb hby at_10) rfl (tlt hc10).2.2.2 ?_
      refine XS.iconst X0.here hx rfl (hb hby at_13) ?_
      refine XS.goto X0.here hx rfl (pc0 := 14) (pc' := 19) rfl (hb hby at_14) (by decide) (by decide) ?_
      exact kt
    · simp only [if_neg hc10] at kt
      refine XS.iload X0.here hx rfl (hb hby at_7) rfl ?_
      refine XS.iconst X0.here hx rfl (hb hby at_9) ?_
      refine XS.icmpYes X0.here hx rfl (pc0 := 10) (pc' := 17) rfl (hb hby at_10) rfl (flt hc10).2.2.2 (by decide) (by decide) ?_
      refine XS.iload X0.here hx rfl (hb hby at_17) rfl ?_
      exact kt
  obtain ⟨lx0, elx0⟩ : ∃ z : Int64, z = ((u0 >>> ((16 : Int32) &&& 31)).toInt64) := ⟨_, rfl⟩
  obtain ⟨ly0, ely0⟩ : ∃ z : Int64, z = ((u0.toInt16.toInt32).toInt64) := ⟨_, rfl⟩
  have st2 : ∀ target, Steps p.tables e below (s₁.setTop (mkF m 33 #[.val (.int u0), .val (.int u1), .val (.int u2), .val (.int u3), .val (.int u4), .val (.int (u4 &&& (7 : Int32))), .val (.int mv1_0), .val (.long lx0), .second, .val (.long ly0), .second, .unset, .unset, .unset, .unset, .unset, .unset, .unset, .unset, .unset, .unset, .unset, .unset, .unset, .unset, .unset, .unset, .unset, .unset, .unset, .unset, .unset, .unset, .unset, .unset, .unset, .unset, .unset, .unset, .unset] [])) target → Steps p.tables e below (s₁.setTop (mkF m 33 #[.val (.int u0), .val (.int u1), .val (.int u2), .val (.int u3), .val (.int u4), .val (.int (u4 &&& (7 : Int32))), .val (.int mv1_0), .val (.long ((u0 >>> ((16 : Int32) &&& 31)).toInt64)), .second, .val (.long ((u0.toInt16.toInt32).toInt64)), .second, .unset, .unset, .unset, .unset, .unset, .unset, .unset, .unset, .unset, .unset, .unset, .unset, .unset, .unset, .unset, .unset, .unset, .unset, .unset, .unset, .unset, .unset, .unset, .unset, .unset, .unset, .unset, .unset, .unset] [])) target := by intro target kt; rw [elx0, ely0] at kt; exact kt
  obtain ⟨lx1, elx1⟩ : ∃ z : Int64, z = ((u1 >>> ((16 : Int32) &&& 31)).toInt64) := ⟨_, rfl⟩
  obtain ⟨ly1, ely1⟩ : ∃ z : Int64, z = ((u1.toInt16.toInt32).toInt64) := ⟨_, rfl⟩
  have st3 : ∀ target, Steps p.tables e below (s₁.setTop (mkF m 45 #[.val (.int u0), .val (.int u1), .val (.int u2), .val (.int u3), .val (.int u4), .val (.int (u4 &&& (7 : Int32))), .val (.int mv1_0), .val (.long lx0), .second, .val (.long ly0), .second, .val (.long lx1), .second, .val (.long ly1), .second, .unset, .unset, .unset, .unset, .unset, .unset, .unset, .unset, .unset, .unset, .unset, .unset, .unset, .unset, .unset, .unset, .unset, .unset, .unset, .unset, .unset, .unset, .unset, .unset, .unset] [])) target → Steps p.tables e below (s₁.setTop (mkF m 45 #[.val (.int u0), .val (.int u1), .val (.int u2), .val (.int u3), .val (.int u4), .val (.int (u4 &&& (7 : Int32))), .val (.int mv1_0), .val (.long lx0), .second, .val (.long ly0), .second, .val (.long ((u1 >>> ((16 : Int32) &&& 31)).toInt64)), .second, .val (.long ((u1.toInt16.toInt32).toInt64)), .second, .unset, .unset, .unset, .unset, .unset, .unset, .unset, .unset, .unset, .unset, .unset, .unset, .unset, .unset, .unset, .unset, .unset, .unset, .unset, .unset, .unset, .unset, .unset, .unset, .unset] [])) target := by intro target kt; rw [elx1, ely1] at kt; exact kt
  obtain ⟨lx2, elx2⟩ : ∃ z : Int64, z = ((u2 >>> ((16 : Int32) &&& 31)).toInt64) := ⟨_, rfl⟩
  obtain ⟨ly2, ely2⟩ : ∃ z : Int64, z = ((u2.toInt16.toInt32).toInt64) := ⟨_, rfl⟩
  have st4 : ∀ target, Steps p.tables e below (s₁.setTop (mkF m 57 #[.val (.int u0), .val (.int u1), .val (.int u2), .val (.int u3), .val (.int u4), .val (.int (u4 &&& (7 : Int32))), .val (.int mv1_0), .val (.long lx0), .second, .val (.long ly0), .second, .val (.long lx1), .second, .val (.long ly1), .second, .val (.long lx2), .second, .val (.long ly2), .second, .unset, .unset, .unset, .unset, .unset, .unset, .unset, .unset, .unset, .unset, .unset, .unset, .unset, .unset, .unset, .unset, .unset, .unset, .unset, .unset, .unset] [])) target → Steps p.tables e below (s₁.setTop (mkF m 57 #[.val (.int u0), .val (.int u1), .val (.int u2), .val (.int u3), .val (.int u4), .val (.int (u4 &&& (7 : Int32))), .val (.int mv1_0), .val (.long lx0), .second, .val (.long ly0), .second, .val (.long lx1), .second, .val (.long ly1), .second, .val (.long ((u2 >>> ((16 : Int32) &&& 31)).toInt64)), .second, .val (.long ((u2.toInt16.toInt32).toInt64)), .second, .unset, .unset, .unset, .unset, .unset, .unset, .unset, .unset, .unset, .unset, .unset, .unset, .unset, .unset, .unset, .unset, .unset, .unset, .unset, .unset, .unset] [])) target := by intro target kt; rw [elx2, ely2] at kt; exact kt
  obtain ⟨lx3, elx3⟩ : ∃ z : Int64, z = ((u3 >>> ((16 : Int32) &&& 31)).toInt64) := ⟨_, rfl⟩
  obtain ⟨ly3, ely3⟩ : ∃ z : Int64, z = ((u3.toInt16.toInt32).toInt64) := ⟨_, rfl⟩
  have st5 : ∀ target, Steps p.tables e below (s₁.setTop (mkF m 69 #[.val (.int u0), .val (.int u1), .val (.int u2), .val (.int u3), .val (.int u4), .val (.int (u4 &&& (7 : Int32))), .val (.int mv1_0), .val (.long lx0), .second, .val (.long ly0), .second, .val (.long lx1), .second, .val (.long ly1), .second, .val (.long lx2), .second, .val (.long ly2), .second, .val (.long lx3), .second, .val (.long ly3), .second, .unset, .unset, .unset, .unset, .unset, .unset, .unset, .unset, .unset, .unset, .unset, .unset, .unset, .unset, .unset, .unset, .unset] [])) target → Steps p.tables e below (s₁.setTop (mkF m 69 #[.val (.int u0), .val (.int u1), .val (.int u2), .val (.int u3), .val (.int u4), .val (.int (u4 &&& (7 : Int32))), .val (.int mv1_0), .val (.long lx0), .second, .val (.long ly0), .second, .val (.long lx1), .second, .val (.long ly1), .second, .val (.long lx2), .second, .val (.long ly2), .second, .val (.long ((u3 >>> ((16 : Int32) &&& 31)).toInt64)), .second, .val (.long ((u3.toInt16.toInt32).toInt64)), .second, .unset, .unset, .unset, .unset, .unset, .unset, .unset, .unset, .unset, .unset, .unset, .unset, .unset, .unset, .unset, .unset, .unset] [])) target := by intro target kt; rw [elx3, ely3] at kt; exact kt
  obtain ⟨nk0, enk0⟩ : ∃ z : Int32, z = (u4 &&& (7 : Int32)) := ⟨_, rfl⟩
  obtain ⟨nk, enk⟩ : ∃ z : Int32, z = mv1_0 := ⟨_, rfl⟩
  have st6 : ∀ target, Steps p.tables e below (s₁.setTop (mkF m 69 #[.val (.int u0), .val (.int u1), .val (.int u2), .val (.int u3), .val (.int u4), .val (.int nk0), .val (.int nk), .val (.long lx0), .second, .val (.long ly0), .second, .val (.long lx1), .second, .val (.long ly1), .second, .val (.long lx2), .second, .val (.long ly2), .second, .val (.long lx3), .second, .val (.long ly3), .second, .unset, .unset, .unset, .unset, .unset, .unset, .unset, .unset, .unset, .unset, .unset, .unset, .unset, .unset, .unset, .unset, .unset] [])) target → Steps p.tables e below (s₁.setTop (mkF m 69 #[.val (.int u0), .val (.int u1), .val (.int u2), .val (.int u3), .val (.int u4), .val (.int (u4 &&& (7 : Int32))), .val (.int mv1_0), .val (.long lx0), .second, .val (.long ly0), .second, .val (.long lx1), .second, .val (.long ly1), .second, .val (.long lx2), .second, .val (.long ly2), .second, .val (.long lx3), .second, .val (.long ly3), .second, .unset, .unset, .unset, .unset, .unset, .unset, .unset, .unset, .unset, .unset, .unset, .unset, .unset, .unset, .unset, .unset, .unset] [])) target := by intro target kt; rw [enk, enk0] at kt; exact kt
  have hnk : nk = (2 : Int32) := enk.trans (me1_0.trans hk)
  obtain ⟨xda0, Lx0⟩ : ∃ i, LI i 32768 lx0 := ⟨_, elx0 ▸ LI.shr u0⟩
  obtain ⟨da0, eda0⟩ : ∃ z, z = FP.l2d lx0 := ⟨_, rfl⟩
  have Dda0 := LI.d Lx0 eda0 (by decide)
  obtain ⟨xdq0, Ly0⟩ : ∃ i, LI i 32768 ly0 := ⟨_, ely0 ▸ LI.i2s u0⟩
  obtain ⟨dq0, edq0⟩ : ∃ z, z = FP.l2d ly0 := ⟨_, rfl⟩
  have Ddq0 := LI.d Ly0 edq0 (by decide)
  obtain ⟨xda1, Lx1⟩ : ∃ i, LI i 32768 lx1 := ⟨_, elx1 ▸ LI.shr u1⟩
  obtain ⟨da1, eda1⟩ : ∃ z, z = FP.l2d lx1 := ⟨_, rfl⟩
  have Dda1 := LI.d Lx1 eda1 (by decide)
  obtain ⟨xdq1, Ly1⟩ : ∃ i, LI i 32768 ly1 := ⟨_, ely1 ▸ LI.i2s u1⟩
  obtain ⟨dq1, edq1⟩ : ∃ z, z = FP.l2d ly1 := ⟨_, rfl⟩
  have Ddq1 := LI.d Ly1 edq1 (by decide)
  obtain ⟨xda2, Lx2⟩ : ∃ i, LI i 32768 lx2 := ⟨_, elx2 ▸ LI.shr u2⟩
  obtain ⟨da2, eda2⟩ : ∃ z, z = FP.l2d lx2 := ⟨_, rfl⟩
  have Dda2 := LI.d Lx2 eda2 (by decide)
  obtain ⟨xdq2, Ly2⟩ : ∃ i, LI i 32768 ly2 := ⟨_, ely2 ▸ LI.i2s u2⟩
  obtain ⟨dq2, edq2⟩ : ∃ z, z = FP.l2d ly2 := ⟨_, rfl⟩
  have Ddq2 := LI.d Ly2 edq2 (by decide)
  obtain ⟨xda3, Lx3⟩ : ∃ i, LI i 32768 lx3 := ⟨_, elx3 ▸ LI.shr u3⟩
  obtain ⟨da3, eda3⟩ : ∃ z, z = FP.l2d lx3 := ⟨_, rfl⟩
  have Dda3 := LI.d Lx3 eda3 (by decide)
  obtain ⟨xdq3, Ly3⟩ : ∃ i, LI i 32768 ly3 := ⟨_, ely3 ▸ LI.i2s u3⟩
  obtain ⟨dq3, edq3⟩ : ∃ z, z = FP.l2d ly3 := ⟨_, rfl⟩
  have Ddq3 := LI.d Ly3 edq3 (by decide)
  have hB : ¬ ((((0 : Int) + ((xda0 * xdq1) - (xda1 * xdq0))) + ((xda1 * xdq0) - (xda0 * xdq1))) < 0) := by omega
  obtain ⟨_, _, ⟨T7, L7, k7, n7⟩, -, X7, ⟨Lc7, hQ7, l7, y7, z7⟩, st7⟩ := Jvm.LawKit.callS X0 hx (y := (⟨"com/example/decorum/decorum/graphics/RasterizerClockwisePinLaw", "build", "(IJJJJJJJJ)[D"⟩ : MethodName)) hown (mvT hZ (hw _ (List.mem_of_getElem? (i := 0) rfl))) (mvT hZ (hw _ (List.mem_of_getElem? (i := 1) rfl))) (mvT hZ (hw _ (List.mem_of_getElem? (i := 2) rfl))) (mvT hZ (hw _ (List.mem_of_getElem? (i := 3) rfl))) (by decide) (backOf (W := 0) (rmB2 l Z a0 hw [] nk lx0 ly0 lx1 ly1 lx2 ly2 lx3 ly3 da0 dq0 da1 dq1 h0 n0 Z0 hnk eda0 edq0 eda1 edq1) hZ (hw _ (List.mem_of_getElem? (i := 3) rfl)) (hw _ (List.mem_of_getElem? (i := 2) rfl)) (by decide) (by decide)) (g := (mkF m 87 #[.val (.int u0), .val (.int u1), .val (.int u2), .val (.int u3), .val (.int u4), .val (.int nk0), .val (.int nk), .val (.long lx0), .second, .val (.long ly0), .second, .val (.long lx1), .second, .val (.long ly1), .second, .val (.long lx2), .second, .val (.long ly2), .second, .val (.long lx3), .second, .val (.long ly3), .second, .unset, .unset, .unset, .unset, .unset, .unset, .unset, .unset, .unset, .unset, .unset, .unset, .unset, .unset, .unset, .unset, .unset] [(.long ly3), (.long lx3), (.long ly2), (.long lx2), (.long ly1), (.long lx1), (.long ly0), (.long lx0), (.int nk)])) rfl (by rw [hml]; rfl) (argsL := [(.int nk), (.long lx0), (.long ly0), (.long lx1), (.long ly1), (.long lx2), (.long ly2), (.long lx3), (.long ly3)]) (rest := []) (lenOf pd_0 rfl) rfl (by show 2 * 0 + _ ≤ _; exact Nat.le_of_eq rfl) (hb hby at_87) (fun _ _ => ⟨rfl, e0, (by decide : 0 + 1 ≤ _), (by decide : 0 + 4 ≤ _)⟩)
  dsimp only [Pt.U, Pt.locs, Pt.cells, Pt.slots] at X7 l7 y7 z7 st7 hQ7
  replace y7 : k7 = 1 := y7
  replace z7 : n7 = 4 := z7
  rw [y7, z7] at X7
  obtain ⟨hv7, N7q, K7, kk7, V7⟩ := hQ7
  obtain ⟨b7, g7⟩ : ∃ z, z = h0.size := ⟨_, rfl⟩
  rw [← g7] at hv7 V7
  subst hv7
  have g_b7 : n0 ≤ b7 := Nat.le_trans Z0 (Nat.le_of_eq g7.symm)
  have sz_b7 : h0.size ≤ b7 := Nat.le_trans (Keep.refl h0 []).1 (Nat.le_of_eq g7.symm)
  have N7 : Fr n0 L7 := l7 ▸ Fr.app N0 N7q
  have Z7 : n0 ≤ T7.heap.size := Nat.le_trans Z0 K7.1
  have KK7 := (Keep.refl h0 []).trans K7 all0
  obtain ⟨_, _, ⟨T8, L8, k8, n8⟩, -, X8, ⟨Lc8, hQ8, l8, y8, z8⟩, st8⟩ := Jvm.LawKit.callS X7 hx (y := (⟨"com/example/decorum/decorum/graphics/RasterizerClockwisePinLaw", "build", "(IJJJJJJJJ)[D"⟩ : MethodName)) hown (mvT hZ (hw _ (List.mem_of_getElem? (i := 0) rfl))) (mvT hZ (hw _ (List.mem_of_getElem? (i := 1) rfl))) (mvT hZ (hw _ (List.mem_of_getElem? (i := 2) rfl))) (mvT hZ (hw _ (List.mem_of_getElem? (i := 3) rfl))) (by decide) (backOf (W := 0) (rmB2 l Z a0 hw [] nk lx0 ly0 lx1 ly1 lx2 ly2 lx3 ly3 da0 dq0 da1 dq1 T7.heap n0 Z7 hnk eda0 edq0 eda1 edq1) hZ (hw _ (List.mem_of_getElem? (i := 3) rfl)) (hw _ (List.mem_of_getElem? (i := 2) rfl)) (by decide) (by decide)) (g := (mkF m 110 #[.val (.int u0), .val (.int u1), .val (.int u2), .val (.int u3), .val (.int u4), .val (.int nk0), .val (.int nk), .val (.long lx0), .second, .val (.long ly0), .second, .val (.long lx1), .second, .val (.long ly1), .second, .val (.long lx2), .second, .val (.long ly2), .second, .val (.long lx3), .second, .val (.long ly3), .second, .val (.ref b7), .unset, .unset, .unset, .unset, .unset, .unset, .unset, .unset, .unset, .unset, .unset, .unset, .unset, .unset, .unset, .unset] [(.long ly3), (.long lx3), (.long ly2), (.long lx2), (.long ly1), (.long lx1), (.long ly0), (.long lx0), (.int nk)])) rfl (by rw [hml]; rfl) (argsL := [(.int nk), (.long lx0), (.long ly0), (.long lx1), (.long ly1), (.long lx2), (.long ly2), (.long lx3), (.long ly3)]) (rest := []) (lenOf pd_0 rfl) rfl (by show 2 * 0 + _ ≤ _; exact Nat.le_of_eq rfl) (hb hby at_110) (fun _ _ => ⟨rfl, rfl, (by decide : 1 + 1 ≤ _), (by decide : 4 + 4 ≤ _)⟩)
  dsimp only [Pt.U, Pt.locs, Pt.cells, Pt.slots] at X8 l8 y8 z8 st8 hQ8
  replace y8 : k8 = 2 := y8
  replace z8 : n8 = 8 := z8
  rw [y8, z8] at X8
  obtain ⟨hv8, N8q, K8, kk8, V8⟩ := hQ8
  obtain ⟨b8, g8⟩ : ∃ z, z = T7.heap.size := ⟨_, rfl⟩
  rw [← g8] at hv8 V8
  subst hv8
  have g_b8 : n0 ≤ b8 := Nat.le_trans Z7 (Nat.le_of_eq g8.symm)
  have sz_b8 : h0.size ≤ b8 := Nat.le_trans KK7.1 (Nat.le_of_eq g8.symm)
  have N8 : Fr n0 L8 := l8 ▸ Fr.app N7 N8q
  have Z8 : n0 ≤ T8.heap.size := Nat.le_trans Z7 K8.1
  have KK8 := KK7.trans K8 all0
  obtain ⟨_, _, ⟨T9, L9, k9, n9⟩, -, X9, ⟨Lc9, hQ9, l9, y9, z9⟩, st9⟩ := Jvm.LawKit.callS X8 hx (y := (⟨"com/example/decorum/decorum/graphics/RasterizerClockwisePinLaw", "build", "(IJJJJJJJJ)[D"⟩ : MethodName)) hown (mvT hZ (hw _ (List.mem_of_getElem? (i := 0) rfl))) (mvT hZ (hw _ (List.mem_of_getElem? (i := 1) rfl))) (mvT hZ (hw _ (List.mem_of_getElem? (i := 2) rfl))) (mvT hZ (hw _ (List.mem_of_getElem? (i := 3) rfl))) (by decide) (backOf (W := 0) (rmB2 l Z a0 hw [] nk lx2 ly2 lx1 ly1 lx0 ly0 (0 : Int64) (0 : Int64) da2 dq2 da1 dq1 T8.heap n0 Z8 hnk eda2 edq2 eda1 edq1) hZ (hw _ (List.mem_of_getElem? (i := 3) rfl)) (hw _ (List.mem_of_getElem? (i := 2) rfl)) (by decide) (by decide)) (g := (mkF m 160 #[.val (.int u0), .val (.int u1), .val (.int u2), .val (.int u3), .val (.int u4), .val (.int nk0), .val (.int nk), .val (.long lx0), .second, .val (.long ly0), .second, .val (.long lx1), .second, .val (.long ly1), .second, .val (.long lx2), .second, .val (.long ly2), .second, .val (.long lx3), .second, .val (.long ly3), .second, .val (.ref b7), .val (.ref b8), .unset, .unset, .unset, .unset, .unset, .unset, .unset, .unset, .unset, .unset, .unset, .unset, .unset, .unset, .unset] [(.long (0 : Int64)), (.long (0 : Int64)), (.long ly0), (.long lx0), (.long ly1), (.long lx1), (.long ly2), (.long lx2), (.int nk)])) rfl (by rw [hml]; rfl) (argsL := [(.int nk), (.long lx2), (.long ly2), (.long lx1), (.long ly1), (.long lx0), (.long ly0), (.long (0 : Int64)), (.long (0 : Int64))]) (rest := []) (lenOf pd_0 rfl) rfl (by show 2 * 0 + _ ≤ _; exact Nat.le_of_eq rfl) (hb hby at_160) (fun _ _ => ⟨rfl, rfl, (by decide : 2 + 1 ≤ _), (by decide : 8 + 4 ≤ _)⟩)
  dsimp only [Pt.U, Pt.locs, Pt.cells, Pt.slots] at X9 l9 y9 z9 st9 hQ9
  replace y9 : k9 = 3 := y9
  replace z9 : n9 = 12 := z9
  rw [y9, z9] at X9
  obtain ⟨hv9, N9q, K9, kk9, V9⟩ := hQ9
  obtain ⟨b9, g9⟩ : ∃ z, z = T8.heap.size := ⟨_, rfl⟩
  rw [← g9] at hv9 V9
  subst hv9
  have g_b9 : n0 ≤ b9 := Nat.le_trans Z8 (Nat.le_of_eq g9.symm)
  have sz_b9 : h0.size ≤ b9 := Nat.le_trans KK8.1 (Nat.le_of_eq g9.symm)
  have N9 : Fr n0 L9 := l9 ▸ Fr.app N8 N9q
  have Z9 : n0 ≤ T9.heap.size := Nat.le_trans Z8 K9.1
  have KK9 := KK8.trans K9 all0
  obtain ⟨c26, ec26⟩ : ∃ z : Int64, z = ((lx0 * ly1) - (lx1 * ly0)) := ⟨_, rfl⟩
  obtain ⟨c28, ec28⟩ : ∃ z : Int64, z = ((lx1 * ly2) - (lx2 * ly1)) := ⟨_, rfl⟩
  obtain ⟨c30, ec30⟩ : ∃ z : Int64, z = ((lx2 * ly0) - (lx0 * ly2)) := ⟨_, rfl⟩
  obtain ⟨c32, ec32⟩ : ∃ z : Int64, z = ((lx2 * ly3) - (lx3 * ly2)) := ⟨_, rfl⟩
  obtain ⟨c34, ec34⟩ : ∃ z : Int64, z = ((lx3 * ly0) - (lx0 * ly3)) := ⟨_, rfl⟩
  have st10 : ∀ target, Steps p.tables e below (T9.setTop (mkF m 230 #[.val (.int u0), .val (.int u1), .val (.int u2), .val (.int u3), .val (.int u4), .val (.int nk0), .val (.int nk), .val (.long lx0), .second, .val (.long ly0), .second, .val (.long lx1), .second, .val (.long ly1), .second, .val (.long lx2), .second, .val (.long ly2), .second, .val (.long lx3), .second, .val (.long ly3), .second, .val (.ref b7), .val (.ref b8), .val (.ref b9), .val (.long c26), .second, .val (.long c28), .second, .val (.long c30), .second, .val (.long c32), .second, .val (.long c34), .second, .unset, .unset, .unset, .unset] [])) target → Steps p.tables e below (T9.setTop (mkF m 230 #[.val (.int u0), .val (.int u1), .val (.int u2), .val (.int u3), .val (.int u4), .val (.int nk0), .val (.int nk), .val (.long lx0), .second, .val (.long ly0), .second, .val (.long lx1), .second, .val (.long ly1), .second, .val (.long lx2), .second, .val (.long ly2), .second, .val (.long lx3), .second, .val (.long ly3), .second, .val (.ref b7), .val (.ref b8), .val (.ref b9), .val (.long ((lx0 * ly1) - (lx1 * ly0))), .second, .val (.long ((lx1 * ly2) - (lx2 * ly1))), .second, .val (.long ((lx2 * ly0) - (lx0 * ly2))), .second, .val (.long ((lx2 * ly3) - (lx3 * ly2))), .second, .val (.long ((lx3 * ly0) - (lx0 * ly3))), .second, .unset, .unset, .unset, .unset] [])) target := by intro target kt; rw [ec26, ec28, ec30, ec32, ec34] at kt; exact kt
  obtain ⟨_, _, ⟨T11, L11, k11, n11⟩, -, X11, ⟨Lc11, hQ11, l11, y11, z11⟩, st11⟩ := Jvm.LawKit.callS X9 hx (y := (⟨"com/example/decorum/decorum/graphics/Rasterizer", "clockwise", "([D)[D"⟩ : MethodName)) hown (mvT hZ (hw _ (List.mem_of_getElem? (i := 5) rfl))) (mvT hZ (hw _ (List.mem_of_getElem? (i := 6) rfl))) (mvT hZ (hw _ (List.mem_of_getElem? (i := 7) rfl))) (mvT hZ (hw _ (List.mem_of_getElem? (i := 8) rfl))) (by decide) (backOf (W := 0) (rmC2 l Z a0 hw [] b7 kk7 da0 dq0 da1 dq1 xda0 xdq0 xda1 xdq1 T9.heap n0 Z9 ((V7.keep K8 nin0).keep K9 nin0) Dda0 Ddq0 Dda1 Ddq1 hB) hZ (hw _ (List.mem_of_getElem? (i := 8) rfl)) (hw _ (List.mem_of_getElem? (i := 7) rfl)) (by decide) (by decide)) (g := (mkF m 273 #[.val (.int u0), .val (.int u1), .val (.int u2), .val (.int u3), .val (.int u4), .val (.int nk0), .val (.int nk), .val (.long lx0), .second, .val (.long ly0), .second, .val (.long lx1), .second, .val (.long ly1), .second, .val (.long lx2), .second, .val (.long ly2), .second, .val (.long lx3), .second, .val (.long ly3), .second, .val (.ref b7), .val (.ref b8), .val (.ref b9), .val (.long c26), .second, .val (.long c28), .second, .val (.long c30), .second, .val (.long c32), .second, .val (.long c34), .second, .val (.long (0 : Int64)), .second, .unset, .unset] [(.ref b7)])) rfl (by rw [hml]; rfl) (argsL := [(.ref b7)]) (rest := []) (lenOf pd_1 rfl) rfl (by show 2 * 0 + _ ≤ _; exact Nat.le_of_eq rfl) (hb hby at_273) (fun _ _ => ⟨rfl, rfl, (by decide : 3 + 0 ≤ _), (by decide : 12 + 0 ≤ _)⟩)
  dsimp only [Pt.U, Pt.locs, Pt.cells, Pt.slots] at X11 l11 y11 z11 st11 hQ11
  replace y11 : k11 = 3 := y11
  replace z11 : n11 = 12 := z11
  rw [y11, z11] at X11
  obtain ⟨rfl, N11q, e11⟩ := hQ11
  have N11 : Fr n0 L11 := l11 ▸ Fr.app N9 N11q
  obtain ⟨_, _, ⟨T12, L12, k12, n12⟩, -, X12, ⟨Lc12, hQ12, l12, y12, z12⟩, st12⟩ := Jvm.LawKit.callS X11 hx (y := (⟨"com/example/decorum/decorum/graphics/RasterizerClockwisePinLaw", "same", "([D[D)Z"⟩ : MethodName)) hown (mvT hZ (hw _ (List.mem_of_getElem? (i := 9) rfl))) (mvT hZ (hw _ (List.mem_of_getElem? (i := 10) rfl))) (mvT hZ (hw _ (List.mem_of_getElem? (i := 2) rfl))) (mvT hZ (hw _ (List.mem_of_getElem? (i := 11) rfl))) (by decide) (backOf (W := 0) (rmS2 l Z a0 hw [] b7 b8 kk7 kk8 da0 dq0 da1 dq1 T9.heap n0 Z9 ((V7.keep K8 nin0).keep K9 nin0) (V8.keep K9 nin0) Dda0.nn Ddq0.nn Dda1.nn Ddq1.nn) hZ (hw _ (List.mem_of_getElem? (i := 11) rfl)) (hw _ (List.mem_of_getElem? (i := 2) rfl)) (by decide) (by decide)) (g := (mkF m 282 #[.val (.int u0), .val (.int u1), .val (.int u2), .val (.int u3), .val (.int u4), .val (.int nk0), .val (.int nk), .val (.long lx0), .second, .val (.long ly0), .second, .val (.long lx1), .second, .val (.long ly1), .second, .val (.long lx2), .second, .val (.long ly2), .second, .val (.long lx3), .second, .val (.long ly3), .second, .val (.ref b7), .val (.ref b8), .val (.ref b9), .val (.long c26), .second, .val (.long c28), .second, .val (.long c30), .second, .val (.long c32), .second, .val (.long c34), .second, .val (.long (0 : Int64)), .second, .val (.ref b7), .unset] [(.ref b8), (.ref b7)])) rfl (by rw [hml]; rfl) (argsL := [(.ref b7), (.ref b8)]) (rest := []) (lenOf pd_2 rfl) rfl (by show 2 * 0 + _ ≤ _; exact Nat.le_of_eq rfl) (hb hby at_282) (fun _ _ => ⟨rfl, e11, (by decide : 3 + 0 ≤ _), (by decide : 12 + 0 ≤ _)⟩)
  dsimp only [Pt.U, Pt.locs, Pt.cells, Pt.slots] at X12 l12 y12 z12 st12 hQ12
  replace y12 : k12 = 3 := y12
  replace z12 : n12 = 12 := z12
  rw [y12, z12] at X12
  obtain ⟨rfl, N12q, e12⟩ := hQ12
  have N12 : Fr n0 L12 := l12 ▸ Fr.app N11 N12q
  obtain ⟨fs, hr, hrun, hended, hW, hsame⟩ := X12.leave (v := some (.int (1 : Int32))) (fun h => by rw [Bd.returns] at h; cases h)
  refine ⟨_, _, pre0 _ ?_, hrun, hended, _, _, rfl, ?_, ⟨_, rfl⟩, hW, hsame.mono (by decide) (by decide)⟩
  · show Steps p.tables e below (s₁.setTop (mkF m 0 #[.val (.int u0), .val (.int u1), .val (.int u2), .val (.int u3), .val (.int u4), .unset, .unset, .unset, .unset, .unset, .unset, .unset, .unset, .unset, .unset, .unset, .unset, .unset, .unset, .unset, .unset, .unset, .unset, .unset, .unset, .unset, .unset, .unset, .unset, .unset, .unset, .unset, .unset, .unset, .unset, .unset, .unset, .unset, .unset, .unset] [])) _
    refine XS.iload X0.here hx rfl (hb hby at_0) rfl ?_
    refine XS.bipush X0.here hx rfl (hb hby at_2) ?_
    show Steps p.tables e below (s₁.setTop (mkF m 4 #[.val (.int u0), .val (.int u1), .val (.int u2), .val (.int u3), .val (.int u4), .unset, .unset, .unset, .unset, .unset, .unset, .unset, .unset, .unset, .unset, .unset, .unset, .unset, .unset, .unset, .unset, .unset, .unset, .unset, .unset, .unset, .unset, .unset, .unset, .unset, .unset, .unset, .unset, .unset, .unset, .unset, .unset, .unset, .unset, .unset] [(.int (7 : Int32)), (.int u4)])) _
    refine XS.iand X0.here hx rfl (hb hby at_4) rfl ?_
    show Steps p.tables e below (s₁.setTop (mkF m 5 #[.val (.int u0), .val (.int u1), .val (.int u2), .val (.int u3), .val (.int u4), .unset, .unset, .unset, .unset, .unset, .unset, .unset, .unset, .unset, .unset, .unset, .unset, .unset, .unset, .unset, .unset, .unset, .unset, .unset, .unset, .unset, .unset, .unset, .unset, .unset, .unset, .unset, .unset, .unset, .unset, .unset, .unset, .unset, .unset, .unset] [(.int (u4 &&& (7 : Int32)))])) _
    refine XS.istore X0.here hx rfl (hb hby at_5) rfl (l' := #[.val (.int u0), .val (.int u1), .val (.int u2), .val (.int u3), .val (.int u4), .val (.int (u4 &&& (7 : Int32))), .unset, .unset, .unset, .unset, .unset, .unset, .unset, .unset, .unset, .unset, .unset, .unset, .unset, .unset, .unset, .unset, .unset, .unset, .unset, .unset, .unset, .unset, .unset, .unset, .unset, .unset, .unset, .unset, .unset, .unset, .unset, .unset, .unset, .unset]) rfl ?_
    refine st1 _ ?_
    refine XS.istore X0.here hx rfl (hb hby at_19) rfl (l' := #[.val (.int u0), .val (.int u1), .val (.int u2), .val (.int u3), .val (.int u4), .val (.int (u4 &&& (7 : Int32))), .val (.int mv1_0), .unset, .unset, .unset, .unset, .unset, .unset, .unset, .unset, .unset, .unset, .unset, .unset, .unset, .unset, .unset, .unset, .unset, .unset, .unset, .unset, .unset, .unset, .unset, .unset, .unset, .unset, .unset, .unset, .unset, .unset, .unset, .unset, .unset]) rfl ?_
    refine XS.iloadN X0.here hx rfl (hb hby at_21) rfl ?_
    refine XS.bipush X0.here hx rfl (hb hby at_22) ?_
    refine XS.ishr X0.here hx rfl (hb hby at_24) rfl ?_
    refine XS.i2l X0.here hx rfl (hb hby at_25) rfl ?_
    refine XS.lstore X0.here hx rfl (hb hby at_26) rfl (l' := #[.val (.int u0), .val (.int u1), .val (.int u2), .val (.int u3), .val (.int u4), .val (.int (u4 &&& (7 : Int32))), .val (.int mv1_0), .val (.long ((u0 >>> ((16 : Int32) &&& 31)).toInt64)), .second, .unset, .unset, .unset, .unset, .unset, .unset, .unset, .unset, .unset, .unset, .unset, .unset, .unset, .unset, .unset, .unset, .unset, .unset, .unset, .unset, .unset, .unset, .unset, .unset, .unset, .unset, .unset, .unset, .unset, .unset, .unset]) rfl ?_
    refine XS.iloadN X0.here hx rfl (hb hby at_28) rfl ?_
    refine XS.i2s X0.here hx rfl (hb hby at_29) rfl ?_
    refine XS.i2l X0.here hx rfl (hb hby at_30) rfl ?_
    refine XS.lstore X0.here hx rfl (hb hby at_31) rfl (l' := #[.val (.int u0), .val (.int u1), .val (.int u2), .val (.int u3), .val (.int u4), .val (.int (u4 &&& (7 : Int32))), .val (.int mv1_0), .val (.long ((u0 >>> ((16 : Int32) &&& 31)).toInt64)), .second, .val (.long ((u0.toInt16.toInt32).toInt64)), .second, .unset, .unset, .unset, .unset, .unset, .unset, .unset, .unset, .unset, .unset, .unset, .unset, .unset, .unset, .unset, .unset, .unset, .unset, .unset, .unset, .unset, .unset, .unset, .unset, .unset, .unset, .unset, .unset, .unset]) rfl ?_
    refine st2 _ ?_
    show Steps p.tables e below (s₁.setTop (mkF m 33 #[.val (.int u0), .val (.int u1), .val (.int u2), .val (.int u3), .val (.int u4), .val (.int (u4 &&& (7 : Int32))), .val (.int mv1_0), .val (.long lx0), .second, .val (.long ly0), .second, .unset, .unset, .unset, .unset, .unset, .unset, .unset, .unset, .unset, .unset, .unset, .unset, .unset, .unset, .unset, .unset, .unset, .unset, .unset, .unset, .unset, .unset, .unset, .unset, .unset, .unset, .unset, .unset, .unset] [])) _
    refine XS.iloadN X0.here hx rfl (hb hby at_33) rfl ?_
    refine XS.bipush X0.here hx rfl (hb hby at_34) ?_
    refine XS.ishr X0.here hx rfl (hb hby at_36) rfl ?_
    refine XS.i2l X0.here hx rfl (hb hby at_37) rfl ?_
    refine XS.lstore X0.here hx rfl (hb hby at_38) rfl (l' := #[.val (.int u0), .val (.int u1), .val (.int u2), .val (.int u3), .val (.int u4), .val (.int (u4 &&& (7 : Int32))), .val (.int mv1_0), .val (.long lx0), .second, .val (.long ly0), .second, .val (.long ((u1 >>> ((16 : Int32) &&& 31)).toInt64)), .second, .unset, .unset, .unset, .unset, .unset, .unset, .unset, .unset, .unset, .unset, .unset, .unset, .unset, .unset, .unset, .unset, .unset, .unset, .unset, .unset, .unset, .unset, .unset, .unset, .unset, .unset, .unset]) rfl ?_
    refine XS.iloadN X0.here hx rfl (hb hby at_40) rfl ?_
    refine XS.i2s X0.here hx rfl (hb hby at_41) rfl ?_
    refine XS.i2l X0.here hx rfl (hb hby at_42) rfl ?_
    refine XS.lstore X0.here hx rfl (hb hby at_43) rfl (l' := #[.val (.int u0), .val (.int u1), .val (.int u2), .val (.int u3), .val (.int u4), .val (.int (u4 &&& (7 : Int32))), .val (.int mv1_0), .val (.long lx0), .second, .val (.long ly0), .second, .val (.long ((u1 >>> ((16 : Int32) &&& 31)).toInt64)), .second, .val (.long ((u1.toInt16.toInt32).toInt64)), .second, .unset, .unset, .unset, .unset, .unset, .unset, .unset, .unset, .unset, .unset, .unset, .unset, .unset, .unset, .unset, .unset, .unset, .unset, .unset, .unset, .unset, .unset, .unset, .unset, .unset]) rfl ?_
    refine st3 _ ?_
    show Steps p.tables e below (s₁.setTop (mkF m 45 #[.val (.int u0), .val (.int u1), .val (.int u2), .val (.int u3), .val (.int u4), .val (.int (u4 &&& (7 : Int32))), .val (.int mv1_0), .val (.long lx0), .second, .val (.long ly0), .second, .val (.long lx1), .second, .val (.long ly1), .second, .unset, .unset, .unset, .unset, .unset, .unset, .unset, .unset, .unset, .unset, .unset, .unset, .unset, .unset, .unset, .unset, .unset, .unset, .unset, .unset, .unset, .unset, .unset, .unset, .unset] [])) _
    refine XS.iloadN X0.here hx rfl (hb hby at_45) rfl ?_
    refine XS.bipush X0.here hx rfl (hb hby at_46) ?_
    refine XS.ishr X0.here hx rfl (hb hby at_48) rfl ?_
    refine XS.i2l X0.here hx rfl (hb hby at_49) rfl ?_
    refine XS.lstore X0.here hx rfl (hb hby at_50) rfl (l' := #[.val (.int u0), .val (.int u1), .val (.int u2), .val (.int u3), .val (.int u4), .val (.int (u4 &&& (7 : Int32))), .val (.int mv1_0), .val (.long lx0), .second, .val (.long ly0), .second, .val (.long lx1), .second, .val (.long ly1), .second, .val (.long ((u2 >>> ((16 : Int32) &&& 31)).toInt64)), .second, .unset, .unset, .unset, .unset, .unset, .unset, .unset, .unset, .unset, .unset, .unset, .unset, .unset, .unset, .unset, .unset, .unset, .unset, .unset, .unset, .unset, .unset, .unset]) rfl ?_
    refine XS.iloadN X0.here hx rfl (hb hby at_52) rfl ?_
    refine XS.i2s X0.here hx rfl (hb hby at_53) rfl ?_
    refine XS.i2l X0.here hx rfl (hb hby at_54) rfl ?_
    refine XS.lstore X0.here hx rfl (hb hby at_55) rfl (l' := #[.val (.int u0), .val (.int u1), .val (.int u2), .val (.int u3), .val (.int u4), .val (.int (u4 &&& (7 : Int32))), .val (.int mv1_0), .val (.long lx0), .second, .val (.long ly0), .second, .val (.long lx1), .second, .val (.long ly1), .second, .val (.long ((u2 >>> ((16 : Int32) &&& 31)).toInt64)), .second, .val (.long ((u2.toInt16.toInt32).toInt64)), .second, .unset, .unset, .unset, .unset, .unset, .unset, .unset, .unset, .unset, .unset, .unset, .unset, .unset, .unset, .unset, .unset, .unset, .unset, .unset, .unset, .unset]) rfl ?_
    refine st4 _ ?_
    show Steps p.tables e below (s₁.setTop (mkF m 57 #[.val (.int u0), .val (.int u1), .val (.int u2), .val (.int u3), .val (.int u4), .val (.int (u4 &&& (7 : Int32))), .val (.int mv1_0), .val (.long lx0), .second, .val (.long ly0), .second, .val (.long lx1), .second, .val (.long ly1), .second, .val (.long lx2), .second, .val (.long ly2), .second, .unset, .unset, .unset, .unset, .unset, .unset, .unset, .unset, .unset, .unset, .unset, .unset, .unset, .unset, .unset, .unset, .unset, .unset, .unset, .unset, .unset] [])) _
    refine XS.iloadN X0.here hx rfl (hb hby at_57) rfl ?_
    refine XS.bipush X0.here hx rfl (hb hby at_58) ?_
    refine XS.ishr X0.here hx rfl (hb hby at_60) rfl ?_
    refine XS.i2l X0.here hx rfl (hb hby at_61) rfl ?_
    refine XS.lstore X0.here hx rfl (hb hby at_62) rfl (l' := #[.val (.int u0), .val (.int u1), .val (.int u2), .val (.int u3), .val (.int u4), .val (.int (u4 &&& (7 : Int32))), .val (.int mv1_0), .val (.long lx0), .second, .val (.long ly0), .second, .val (.long lx1), .second, .val (.long ly1), .second, .val (.long lx2), .second, .val (.long ly2), .second, .val (.long ((u3 >>> ((16 : Int32) &&& 31)).toInt64)), .second, .unset, .unset, .unset, .unset, .unset, .unset, .unset, .unset, .unset, .unset, .unset, .unset, .unset, .unset, .unset, .unset, .unset, .unset, .unset]) rfl ?_
    refine XS.iloadN X0.here hx rfl (hb hby at_64) rfl ?_
    refine XS.i2s X0.here hx rfl (hb hby at_65) rfl ?_
    refine XS.i2l X0.here hx rfl (hb hby at_66) rfl ?_
    refine XS.lstore X0.here hx rfl (hb hby at_67) rfl (l' := #[.val (.int u0), .val (.int u1), .val (.int u2), .val (.int u3), .val (.int u4), .val (.int (u4 &&& (7 : Int32))), .val (.int mv1_0), .val (.long lx0), .second, .val (.long ly0), .second, .val (.long lx1), .second, .val (.long ly1), .second, .val (.long lx2), .second, .val (.long ly2), .second, .val (.long ((u3 >>> ((16 : Int32) &&& 31)).toInt64)), .second, .val (.long ((u3.toInt16.toInt32).toInt64)), .second, .unset, .unset, .unset, .unset, .unset, .unset, .unset, .unset, .unset, .unset, .unset, .unset, .unset, .unset, .unset, .unset, .unset]) rfl ?_
    refine st5 _ ?_
    refine st6 _ ?_
    show Steps p.tables e below (s₁.setTop (mkF m 69 #[.val (.int u0), .val (.int u1), .val (.int u2), .val (.int u3), .val (.int u4), .val (.int nk0), .val (.int nk), .val (.long lx0), .second, .val (.long ly0), .second, .val (.long lx1), .second, .val (.long ly1), .second, .val (.long lx2), .second, .val (.long ly2), .second, .val (.long lx3), .second, .val (.long ly3), .second, .unset, .unset, .unset, .unset, .unset, .unset, .unset, .unset, .unset, .unset, .unset, .unset, .unset, .unset, .unset, .unset, .unset] [])) _
    refine XS.iload X0.here hx rfl (hb hby at_69) rfl ?_
    refine XS.lload X0.here hx rfl (hb hby at_71) rfl ?_
    refine XS.lload X0.here hx rfl (hb hby at_73) rfl ?_
    refine XS.lload X0.here hx rfl (hb hby at_75) rfl ?_
    refine XS.lload X0.here hx rfl (hb hby at_77) rfl ?_
    refine XS.lload X0.here hx rfl (hb hby at_79) rfl ?_
    refine XS.lload X0.here hx rfl (hb hby at_81) rfl ?_
    refine XS.lload X0.here hx rfl (hb hby at_83) rfl ?_
    refine XS.lload X0.here hx rfl (hb hby at_85) rfl ?_
    refine st7 _ ?_
    show Steps p.tables e below (T7.setTop (mkF m 90 #[.val (.int u0), .val (.int u1), .val (.int u2), .val (.int u3), .val (.int u4), .val (.int nk0), .val (.int nk), .val (.long lx0), .second, .val (.long ly0), .second, .val (.long lx1), .second, .val (.long ly1), .second, .val (.long lx2), .second, .val (.long ly2), .second, .val (.long lx3), .second, .val (.long ly3), .second, .unset, .unset, .unset, .unset, .unset, .unset, .unset, .unset, .unset, .unset, .unset, .unset, .unset, .unset, .unset, .unset, .unset] [(.ref b7)])) _
    refine XS.astore X7.here hx rfl (hb hby at_90) rfl rfl (l' := #[.val (.int u0), .val (.int u1), .val (.int u2), .val (.int u3), .val (.int u4), .val (.int nk0), .val (.int nk), .val (.long lx0), .second, .val (.long ly0), .second, .val (.long lx1), .second, .val (.long ly1), .second, .val (.long lx2), .second, .val (.long ly2), .second, .val (.long lx3), .second, .val (.long ly3), .second, .val (.ref b7), .unset, .unset, .unset, .unset, .unset, .unset, .unset, .unset, .unset, .unset, .unset, .unset, .unset, .unset, .unset, .unset]) rfl ?_
    refine XS.iload X7.here hx rfl (hb hby at_92) rfl ?_
    refine XS.lload X7.here hx rfl (hb hby at_94) rfl ?_
    refine XS.lload X7.here hx rfl (hb hby at_96) rfl ?_
    refine XS.lload X7.here hx rfl (hb hby at_98) rfl ?_
    refine XS.lload X7.here hx rfl (hb hby at_100) rfl ?_
    refine XS.lload X7.here hx rfl (hb hby at_102) rfl ?_
    refine XS.lload X7.here hx rfl (hb hby at_104) rfl ?_
    refine XS.lload X7.here hx rfl (hb hby at_106) rfl ?_
    refine XS.lload X7.here hx rfl (hb hby at_108) rfl ?_
    refine st8 _ ?_
    show Steps p.tables e below (T8.setTop (mkF m 113 #[.val (.int u0), .val (.int u1), .val (.int u2), .val (.int u3), .val (.int u4), .val (.int nk0), .val (.int nk), .val (.long lx0), .second, .val (.long ly0), .second, .val (.long lx1), .second, .val (.long ly1), .second, .val (.long lx2), .second, .val (.long ly2), .second, .val (.long lx3), .second, .val (.long ly3), .second, .val (.ref b7), .unset, .unset, .unset, .unset, .unset, .unset, .unset, .unset, .unset, .unset, .unset, .unset, .unset, .unset, .unset, .unset] [(.ref b8)])) _
    refine XS.astore X8.here hx rfl (hb hby at_113) rfl rfl (l' := #[.val (.int u0), .val (.int u1), .val (.int u2), .val (.int u3), .val (.int u4), .val (.int nk0), .val (.int nk), .val (.long lx0), .second, .val (.long ly0), .second, .val (.long lx1), .second, .val (.long ly1), .second, .val (.long lx2), .second, .val (.long ly2), .second, .val (.long lx3), .second, .val (.long ly3), .second, .val (.ref b7), .val (.ref b8), .unset, .unset, .unset, .unset, .unset, .unset, .unset, .unset, .unset, .unset, .unset, .unset, .unset, .unset, .unset]) rfl ?_
    refine XS.iload X8.here hx rfl (hb hby at_115) rfl ?_
    refine XS.iconst X8.here hx rfl (hb hby at_117) ?_
    refine XS.icmpYes X8.here hx rfl (pc0 := 118) (pc' := 144) rfl (hb hby at_118) rfl (feq (by rw [hnk]; decide)).2 (by decide) (by decide) ?_
    refine XS.iload X8.here hx rfl (hb hby at_144) rfl ?_
    refine XS.lload X8.here hx rfl (hb hby at_146) rfl ?_
    refine XS.lload X8.here hx rfl (hb hby at_148) rfl ?_
    refine XS.lload X8.here hx rfl (hb hby at_150) rfl ?_
    refine XS.lload X8.here hx rfl (hb hby at_152) rfl ?_
    refine XS.lload X8.here hx rfl (hb hby at_154) rfl ?_
    refine XS.lload X8.here hx rfl (hb hby at_156) rfl ?_
    refine XS.lconst X8.here hx rfl (hb hby at_158) ?_
    refine XS.lconst X8.here hx rfl (hb hby at_159) ?_
    refine st9 _ ?_
    show Steps p.tables e below (T9.setTop (mkF m 163 #[.val (.int u0), .val (.int u1), .val (.int u2), .val (.int u3), .val (.int u4), .val (.int nk0), .val (.int nk), .val (.long lx0), .second, .val (.long ly0), .second, .val (.long lx1), .second, .val (.long ly1), .second, .val (.long lx2), .second, .val (.long ly2), .second, .val (.long lx3), .second, .val (.long ly3), .second, .val (.ref b7), .val (.ref b8), .unset, .unset, .unset, .unset, .unset, .unset, .unset, .unset, .unset, .unset, .unset, .unset, .unset, .unset, .unset] [(.ref b9)])) _
    refine XS.astore X9.here hx rfl (hb hby at_163) rfl rfl (l' := #[.val (.int u0), .val (.int u1), .val (.int u2), .val (.int u3), .val (.int u4), .val (.int nk0), .val (.int nk), .val (.long lx0), .second, .val (.long ly0), .second, .val (.long lx1), .second, .val (.long ly1), .second, .val (.long lx2), .second, .val (.long ly2), .second, .val (.long lx3), .second, .val (.long ly3), .second, .val (.ref b7), .val (.ref b8), .val (.ref b9), .unset, .unset, .unset, .unset, .unset, .unset, .unset, .unset, .unset, .unset, .unset, .unset, .unset, .unset]) rfl ?_
    refine XS.lload X9.here hx rfl (hb hby at_165) rfl ?_
    refine XS.lload X9.here hx rfl (hb hby at_167) rfl ?_
    refine XS.lmul X9.here hx rfl (hb hby at_169) rfl ?_
    refine XS.lload X9.here hx rfl (hb hby at_170) rfl ?_
    refine XS.lload X9.here hx rfl (hb hby at_172) rfl ?_
    refine XS.lmul X9.here hx rfl (hb hby at_174) rfl ?_
    refine XS.lsub X9.here hx rfl (hb hby at_175) rfl ?_
    refine XS.lstore X9.here hx rfl (hb hby at_176) rfl (l' := #[.val (.int u0), .val (.int u1), .val (.int u2), .val (.int u3), .val (.int u4), .val (.int nk0), .val (.int nk), .val (.long lx0), .second, .val (.long ly0), .second, .val (.long lx1), .second, .val (.long ly1), .second, .val (.long lx2), .second, .val (.long ly2), .second, .val (.long lx3), .second, .val (.long ly3), .second, .val (.ref b7), .val (.ref b8), .val (.ref b9), .val (.long ((lx0 * ly1) - (lx1 * ly0))), .second, .unset, .unset, .unset, .unset, .unset, .unset, .unset, .unset, .unset, .unset, .unset, .unset]) rfl ?_
    refine XS.lload X9.here hx rfl (hb hby at_178) rfl ?_
    refine XS.lload X9.here hx rfl (hb hby at_180) rfl ?_
    refine XS.lmul X9.here hx rfl (hb hby at_182) rfl ?_
    refine XS.lload X9.here hx rfl (hb hby at_183) rfl ?_
    refine XS.lload X9.here hx rfl (hb hby at_185) rfl ?_
    refine XS.lmul X9.here hx rfl (hb hby at_187) rfl ?_
    refine XS.lsub X9.here hx rfl (hb hby at_188) rfl ?_
    refine XS.lstore X9.here hx rfl (hb hby at_189) rfl (l' := #[.val (.int u0), .val (.int u1), .val (.int u2), .val (.int u3), .val (.int u4), .val (.int nk0), .val (.int nk), .val (.long lx0), .second, .val (.long ly0), .second, .val (.long lx1), .second, .val (.long ly1), .second, .val (.long lx2), .second, .val (.long ly2), .second, .val (.long lx3), .second, .val (.long ly3), .second, .val (.ref b7), .val (.ref b8), .val (.ref b9), .val (.long ((lx0 * ly1) - (lx1 * ly0))), .second, .val (.long ((lx1 * ly2) - (lx2 * ly1))), .second, .unset, .unset, .unset, .unset, .unset, .unset, .unset, .unset, .unset, .unset]) rfl ?_
    refine XS.lload X9.here hx rfl (hb hby at_191) rfl ?_
    refine XS.lload X9.here hx rfl (hb hby at_193) rfl ?_
    refine XS.lmul X9.here hx rfl (hb hby at_195) rfl ?_
    refine XS.lload X9.here hx rfl (hb hby at_196) rfl ?_
    refine XS.lload X9.here hx rfl (hb hby at_198) rfl ?_
    refine XS.lmul X9.here hx rfl (hb hby at_200) rfl ?_
    refine XS.lsub X9.here hx rfl (hb hby at_201) rfl ?_
    refine XS.lstore X9.here hx rfl (hb hby at_202) rfl (l' := #[.val (.int u0), .val (.int u1), .val (.int u2), .val (.int u3), .val (.int u4), .val (.int nk0), .val (.int nk), .val (.long lx0), .second, .val (.long ly0), .second, .val (.long lx1), .second, .val (.long ly1), .second, .val (.long lx2), .second, .val (.long ly2), .second, .val (.long lx3), .second, .val (.long ly3), .second, .val (.ref b7), .val (.ref b8), .val (.ref b9), .val (.long ((lx0 * ly1) - (lx1 * ly0))), .second, .val (.long ((lx1 * ly2) - (lx2 * ly1))), .second, .val (.long ((lx2 * ly0) - (lx0 * ly2))), .second, .unset, .unset, .unset, .unset, .unset, .unset, .unset, .unset]) rfl ?_
    show Steps p.tables e below (T9.setTop (mkF m 204 #[.val (.int u0), .val (.int u1), .val (.int u2), .val (.int u3), .val (.int u4), .val (.int nk0), .val (.int nk), .val (.long lx0), .second, .val (.long ly0), .second, .val (.long lx1), .second, .val (.long ly1), .second, .val (.long lx2), .second, .val (.long ly2), .second, .val (.long lx3), .second, .val (.long ly3), .second, .val (.ref b7), .val (.ref b8), .val (.ref b9), .val (.long ((lx0 * ly1) - (lx1 * ly0))), .second, .val (.long ((lx1 * ly2) - (lx2 * ly1))), .second, .val (.long ((lx2 * ly0) - (lx0 * ly2))), .second, .unset, .unset, .unset, .unset, .unset, .unset, .unset, .unset] [])) _
    refine XS.lload X9.here hx rfl (hb hby at_204) rfl ?_
    refine XS.lload X9.here hx rfl (hb hby at_206) rfl ?_
    refine XS.lmul X9.here hx rfl (hb hby at_208) rfl ?_
    refine XS.lload X9.here hx rfl (hb hby at_209) rfl ?_
    refine XS.lload X9.here hx rfl (hb hby at_211) rfl ?_
    refine XS.lmul X9.here hx rfl (hb hby at_213) rfl ?_
    refine XS.lsub X9.here hx rfl (hb hby at_214) rfl ?_
    refine XS.lstore X9.here hx rfl (hb hby at_215) rfl (l' := #[.val (.int u0), .val (.int u1), .val (.int u2), .val (.int u3), .val (.int u4), .val (.int nk0), .val (.int nk), .val (.long lx0), .second, .val (.long ly0), .second, .val (.long lx1), .second, .val (.long ly1), .second, .val (.long lx2), .second, .val (.long ly2), .second, .val (.long lx3), .second, .val (.long ly3), .second, .val (.ref b7), .val (.ref b8), .val (.ref b9), .val (.long ((lx0 * ly1) - (lx1 * ly0))), .second, .val (.long ((lx1 * ly2) - (lx2 * ly1))), .second, .val (.long ((lx2 * ly0) - (lx0 * ly2))), .second, .val (.long ((lx2 * ly3) - (lx3 * ly2))), .second, .unset, .unset, .unset, .unset, .unset, .unset]) rfl ?_
    refine XS.lload X9.here hx rfl (hb hby at_217) rfl ?_
    refine XS.lload X9.here hx rfl (hb hby at_219) rfl ?_
    refine XS.lmul X9.here hx rfl (hb hby at_221) rfl ?_
    refine XS.lload X9.here hx rfl (hb hby at_222) rfl ?_
    refine XS.lload X9.here hx rfl (hb hby at_224) rfl ?_
    refine XS.lmul X9.here hx rfl (hb hby at_226) rfl ?_
    refine XS.lsub X9.here hx rfl (hb hby at_227) rfl ?_
    refine XS.lstore X9.here hx rfl (hb hby at_228) rfl (l' := #[.val (.int u0), .val (.int u1), .val (.int u2), .val (.int u3), .val (.int u4), .val (.int nk0), .val (.int nk), .val (.long lx0), .second, .val (.long ly0), .second, .val (.long lx1), .second, .val (.long ly1), .second, .val (.long lx2), .second, .val (.long ly2), .second, .val (.long lx3), .second, .val (.long ly3), .second, .val (.ref b7), .val (.ref b8), .val (.ref b9), .val (.long ((lx0 * ly1) - (lx1 * ly0))), .second, .val (.long ((lx1 * ly2) - (lx2 * ly1))), .second, .val (.long ((lx2 * ly0) - (lx0 * ly2))), .second, .val (.long ((lx2 * ly3) - (lx3 * ly2))), .second, .val (.long ((lx3 * ly0) - (lx0 * ly3))), .second, .unset, .unset, .unset, .unset]) rfl ?_
    refine st10 _ ?_
    show Steps p.tables e below (T9.setTop (mkF m 230 #[.val (.int u0), .val (.int u1), .val (.int u2), .val (.int u3), .val (.int u4), .val (.int nk0), .val (.int nk), .val (.long lx0), .second, .val (.long ly0), .second, .val (.long lx1), .second, .val (.long ly1), .second, .val (.long lx2), .second, .val (.long ly2), .second, .val (.long lx3), .second, .val (.long ly3), .second, .val (.ref b7), .val (.ref b8), .val (.ref b9), .val (.long c26), .second, .val (.long c28), .second, .val (.long c30), .second, .val (.long c32), .second, .val (.long c34), .second, .unset, .unset, .unset, .unset] [])) _
    refine XS.lconst X9.here hx rfl (hb hby at_230) ?_
    refine XS.lstore X9.here hx rfl (hb hby at_231) rfl (l' := #[.val (.int u0), .val (.int u1), .val (.int u2), .val (.int u3), .val (.int u4), .val (.int nk0), .val (.int nk), .val (.long lx0), .second, .val (.long ly0), .second, .val (.long lx1), .second, .val (.long ly1), .second, .val (.long lx2), .second, .val (.long ly2), .second, .val (.long lx3), .second, .val (.long ly3), .second, .val (.ref b7), .val (.ref b8), .val (.ref b9), .val (.long c26), .second, .val (.long c28), .second, .val (.long c30), .second, .val (.long c32), .second, .val (.long c34), .second, .val (.long (0 : Int64)), .second, .unset, .unset]) rfl ?_
    refine XS.iload X9.here hx rfl (hb hby at_233) rfl ?_
    refine XS.iconst X9.here hx rfl (hb hby at_235) ?_
    refine XS.icmpYes X9.here hx rfl (pc0 := 236) (pc' := 252) rfl (hb hby at_236) rfl (feq (by rw [hnk]; decide)).2 (by decide) (by decide) ?_
    refine XS.iload X9.here hx rfl (hb hby at_252) rfl ?_
    refine XS.iconst X9.here hx rfl (hb hby at_254) ?_
    refine XS.icmpYes X9.here hx rfl (pc0 := 255) (pc' := 271) rfl (hb hby at_255) rfl (feq (by rw [hnk]; decide)).2 (by decide) (by decide) ?_
    refine XS.aload X9.here hx rfl (hb hby at_271) rfl rfl ?_
    refine st11 _ ?_
    show Steps p.tables e below (T11.setTop (mkF m 276 #[.val (.int u0), .val (.int u1), .val (.int u2), .val (.int u3), .val (.int u4), .val (.int nk0), .val (.int nk), .val (.long lx0), .second, .val (.long ly0), .second, .val (.long lx1), .second, .val (.long ly1), .second, .val (.long lx2), .second, .val (.long ly2), .second, .val (.long lx3), .second, .val (.long ly3), .second, .val (.ref b7), .val (.ref b8), .val (.ref b9), .val (.long c26), .second, .val (.long c28), .second, .val (.long c30), .second, .val (.long c32), .second, .val (.long c34), .second, .val (.long (0 : Int64)), .second, .unset, .unset] [(.ref b7)])) _
    refine XS.astore X11.here hx rfl (hb hby at_276) rfl rfl (l' := #[.val (.int u0), .val (.int u1), .val (.int u2), .val (.int u3), .val (.int u4), .val (.int nk0), .val (.int nk), .val (.long lx0), .second, .val (.long ly0), .second, .val (.long lx1), .second, .val (.long ly1), .second, .val (.long lx2), .second, .val (.long ly2), .second, .val (.long lx3), .second, .val (.long ly3), .second, .val (.ref b7), .val (.ref b8), .val (.ref b9), .val (.long c26), .second, .val (.long c28), .second, .val (.long c30), .second, .val (.long c32), .second, .val (.long c34), .second, .val (.long (0 : Int64)), .second, .val (.ref b7), .unset]) rfl ?_
    refine XS.aload X11.here hx rfl (hb hby at_278) rfl rfl ?_
    refine XS.aload X11.here hx rfl (hb hby at_280) rfl rfl ?_
    refine st12 _ ?_
    show Steps p.tables e below (T12.setTop (mkF m 285 #[.val (.int u0), .val (.int u1), .val (.int u2), .val (.int u3), .val (.int u4), .val (.int nk0), .val (.int nk), .val (.long lx0), .second, .val (.long ly0), .second, .val (.long lx1), .second, .val (.long ly1), .second, .val (.long lx2), .second, .val (.long ly2), .second, .val (.long lx3), .second, .val (.long ly3), .second, .val (.ref b7), .val (.ref b8), .val (.ref b9), .val (.long c26), .second, .val (.long c28), .second, .val (.long c30), .second, .val (.long c32), .second, .val (.long c34), .second, .val (.long (0 : Int64)), .second, .val (.ref b7), .unset] [(.int (1 : Int32))])) _
    refine XS.istore X12.here hx rfl (hb hby at_285) rfl (l' := #[.val (.int u0), .val (.int u1), .val (.int u2), .val (.int u3), .val (.int u4), .val (.int nk0), .val (.int nk), .val (.long lx0), .second, .val (.long ly0), .second, .val (.long lx1), .second, .val (.long ly1), .second, .val (.long lx2), .second, .val (.long ly2), .second, .val (.long lx3), .second, .val (.long ly3), .second, .val (.ref b7), .val (.ref b8), .val (.ref b9), .val (.long c26), .second, .val (.long c28), .second, .val (.long c30), .second, .val (.long c32), .second, .val (.long c34), .second, .val (.long (0 : Int64)), .second, .val (.ref b7), .val (.int (1 : Int32))]) rfl ?_
    refine XS.lload X12.here hx rfl (hb hby at_287) rfl ?_
    refine XS.lconst X12.here hx rfl (hb hby at_289) ?_
    refine XS.lcmp X12.here hx rfl (hb hby at_290) rfl ?_
    refine XS.ifNo X12.here hx rfl (hb hby at_291) rfl ((if0 _ _).trans (flt (by decide)).1) ?_
    refine XS.aload X12.here hx rfl (hb hby at_294) rfl rfl ?_
    refine XS.aload X12.here hx rfl (hb hby at_296) rfl rfl ?_
    show Steps p.tables e below (T12.setTop (mkF m 298 #[.val (.int u0), .val (.int u1), .val (.int u2), .val (.int u3), .val (.int u4), .val (.int nk0), .val (.int nk), .val (.long lx0), .second, .val (.long ly0), .second, .val (.long lx1), .second, .val (.long ly1), .second, .val (.long lx2), .second, .val (.long ly2), .second, .val (.long lx3), .second, .val (.long ly3), .second, .val (.ref b7), .val (.ref b8), .val (.ref b9), .val (.long c26), .second, .val (.long c28), .second, .val (.long c30), .second, .val (.long c32), .second, .val (.long c34), .second, .val (.long (0 : Int64)), .second, .val (.ref b7), .val (.int (1 : Int32))] [(.ref b7), (.ref b7)])) _
    refine Jvm.RoadKit.acmp (g := (mkF m 298 #[.val (.int u0), .val (.int u1), .val (.int u2), .val (.int u3), .val (.int u4), .val (.int nk0), .val (.int nk), .val (.long lx0), .second, .val (.long ly0), .second, .val (.long lx1), .second, .val (.long ly1), .second, .val (.long lx2), .second, .val (.long ly2), .second, .val (.long lx3), .second, .val (.long ly3), .second, .val (.ref b7), .val (.ref b8), .val (.ref b9), .val (.long c26), .second, .val (.long c28), .second, .val (.long c30), .second, .val (.long c32), .second, .val (.long c34), .second, .val (.long (0 : Int64)), .second, .val (.ref b7), .val (.int (1 : Int32))] [(.ref b7), (.ref b7)])) X12 hx rfl rfl rfl (pc0 := 298) (pc' := 301) (same := true) rfl (hb hby at_298) rfl (decide_eq_true rfl) (by decide) (by decide) ?_
    show Steps p.tables e below (T12.setTop (mkF m 301 #[.val (.int u0), .val (.int u1), .val (.int u2), .val (.int u3), .val (.int u4), .val (.int nk0), .val (.int nk), .val (.long lx0), .second, .val (.long ly0), .second, .val (.long lx1), .second, .val (.long ly1), .second, .val (.long lx2), .second, .val (.long ly2), .second, .val (.long lx3), .second, .val (.long ly3), .second, .val (.ref b7), .val (.ref b8), .val (.ref b9), .val (.long c26), .second, .val (.long c28), .second, .val (.long c30), .second, .val (.long c32), .second, .val (.long c34), .second, .val (.long (0 : Int64)), .second, .val (.ref b7), .val (.int (1 : Int32))] [])) _
    refine XS.iload X12.here hx rfl (hb hby at_301) rfl ?_
    refine XS.ifNo X12.here hx rfl (hb hby at_303) rfl ((if0 _ _).trans (feq (by decide)).1) ?_
    refine XS.iconst X12.here hx rfl (hb hby at_306) ?_
    refine XS.goto X12.here hx rfl (pc0 := 307) (pc' := 311) rfl (hb hby at_307) (by decide) (by decide) ?_
    show Steps p.tables e below (T12.setTop (mkF m 311 #[.val (.int u0), .val (.int u1), .val (.int u2), .val (.int u3), .val (.int u4), .val (.int nk0), .val (.int nk), .val (.long lx0), .second, .val (.long ly0), .second, .val (.long lx1), .second, .val (.long ly1), .second, .val (.long lx2), .second, .val (.long ly2), .second, .val (.long lx3), .second, .val (.long ly3), .second, .val (.ref b7), .val (.ref b8), .val (.ref b9), .val (.long c26), .second, .val (.long c28), .second, .val (.long c30), .second, .val (.long c32), .second, .val (.long c34), .second, .val (.long (0 : Int64)), .second, .val (.ref b7), .val (.int (1 : Int32))] [(.int (1 : Int32))])) _
    exact retN X12 hx (t := .boolean) Bd.returns (by simp) (hb hby at_311) hr
  · show QL2 Z u0 u1 u2 u3 u4 h0 n0 _ T12.heap _
    rw [e12]
    exact ⟨rfl, N12⟩
theorem ef_L3 (m : MethodId) (u0 : Int32) (u1 : Int32) (u2 : Int32) (u3 : Int32) (u4 : Int32) : entryFrame m #[(.int u0), (.int u1), (.int u2), (.int u3), (.int u4)] maxLocals = mkF m 0 #[.val (.int u0), .val (.int u1), .val (.int u2), .val (.int u3), .val (.int u4), .unset, .unset, .unset, .unset, .unset, .unset, .unset, .unset, .unset, .unset, .unset, .unset, .unset, .unset, .unset, .unset, .unset, .unset, .unset, .unset, .unset, .unset, .unset, .unset, .unset, .unset, .unset, .unset, .unset, .unset, .unset, .unset, .unset, .unset, .unset] [] := by first | (simp [entryFrame, mkF, argsToLocals, Value.category, maxLocals]; done) | rfl
def QL3 (Z : State) (u0 : Int32) (u1 : Int32) (u2 : Int32) (u3 : Int32) (u4 : Int32) (h0 : Heap) (n0 : Nat) (v : Option Value) (h : Heap) (L : List Loc) : Prop := v = some (.int (1 : Int32)) ∧ Fr n0 L
set_option maxRecDepth 65536 in
set_option maxHeartbeats 40000000 in
theorem rmL3 (l : Launch) (Z : State) (a0 : Array Value) (hw : ∀ d ∈ tables_1, d.before a0 Z = true) (ws : List Jvm.Cond) (u0 : Int32) (u1 : Int32) (u2 : Int32) (u3 : Int32) (u4 : Int32) (h0 : Heap) (n0 : Nat) (Z0 : n0 ≤ h0.size) (hk : (if (4 : Int32) < (u4 &&& (7 : Int32)) then (4 : Int32) else (u4 &&& (7 : Int32))) = (3 : Int32)) (hA : ¬ lcmpW ((((((u0 >>> ((16 : Int32) &&& 31)).toInt64) * ((u1.toInt16.toInt32).toInt64)) - (((u1 >>> ((16 : Int32) &&& 31)).toInt64) * ((u0.toInt16.toInt32).toInt64))) + ((((u1 >>> ((16 : Int32) &&& 31)).toInt64) * ((u2.toInt16.toInt32).toInt64)) - (((u2 >>> ((16 : Int32) &&& 31)).toInt64) * ((u1.toInt16.toInt32).toInt64)))) + ((((u2 >>> ((16 : Int32) &&& 31)).toInt64) * ((u0.toInt16.toInt32).toInt64)) - (((u0 >>> ((16 : Int32) &&& 31)).toInt64) * ((u2.toInt16.toInt32).toInt64)))) (0 : Int64) < 0) :
    MetFree l x (head1 (Jvm.Cond.code x code maxLocals ret :: ws) room_1) (fun a U => a = #[(.int u0), (.int u1), (.int u2), (.int u3), (.int u4)] ∧ Z.Warmed39 U.vm ∧ U.heap = h0) (fun _ _ _ _ _ => True) (fun _ U o U' => ∃ v L, o = .returned v ∧ QL3 Z u0 u1 u2 u3 u4 h0 n0 v U'.heap L ∧ FrameEnd U o U' L room_1.cells room_1.slots) := by
  refine MetFree.of_bodySF (plainFor_of_name pn_com_example_decorum_decorum_graphics_RasterizerClockwisePinLaw) hisR ?_
  intro p e s m args below meth c s₁ Bd hml0 hP hK
  obtain ⟨rfl, hZ, hh⟩ := hP
  have hx := Bd.exec
  have hby := Bd.bytes
  have hml : c.maxLocals = 40 := hml0
  have hown : s.vm.findClass "com/example/decorum/decorum/graphics/RasterizerClockwisePinLaw" = some m.cls := findClass_of_methodNamed Bd.named
  have hnm := (name_of_methodNamed Bd.named Bd.method).1
  have X0 : Stand p l e room_1 s m #[(.int u0), (.int u1), (.int u2), (.int u3), (.int u4)] below meth c s₁ [] 0 0 := Stand.of_body Bd
  have e0 : s₁.heap = h0 := by rw [← hh, Bd.state]; rfl
  have N0 := Fr.nil n0
  have pre0 : ∀ t, Steps p.tables e below (s₁.setTop (mkF m 0 #[.val (.int u0), .val (.int u1), .val (.int u2), .val (.int u3), .val (.int u4), .unset, .unset, .unset, .unset, .unset, .unset, .unset, .unset, .unset, .unset, .unset, .unset, .unset, .unset, .unset, .unset, .unset, .unset, .unset, .unset, .unset, .unset, .unset, .unset, .unset, .unset, .unset, .unset, .unset, .unset, .unset, .unset, .unset, .unset, .unset] [])) t → Steps p.tables e below (s₁.setTop (entryFrame m #[(.int u0), (.int u1), (.int u2), (.int u3), (.int u4)] maxLocals)) t := fun t k => castTop (ef_L3 m u0 u1 u2 u3 u4) k
  obtain ⟨mv1_0, me1_0⟩ : ∃ z : Int32, z = (if (4 : Int32) < (u4 &&& (7 : Int32)) then (4 : Int32) else (u4 &&& (7 : Int32))) := ⟨_, rfl⟩
  have st1 : ∀ target, Steps p.tables e below (s₁.setTop (mkF m 19 #[.val (.int u0), .val (.int u1), .val (.int u2), .val (.int u3), .val (.int u4), .val (.int (u4 &&& (7 : Int32))), .unset, .unset, .unset, .unset, .unset, .unset, .unset, .unset, .unset, .unset, .unset, .unset, .unset, .unset, .unset, .unset, .unset, .unset, .unset, .unset, .unset, .unset, .unset, .unset, .unset, .unset, .unset, .unset, .unset, .unset, .unset, .unset, .unset, .unset] [(.int mv1_0)])) target → Steps p.tables e below (s₁.setTop (mkF m 7 #[.val (.int u0), .val (.int u1), .val (.int u2), .val (.int u3), .val (.int u4), .val (.int (u4 &&& (7 : Int32))), .unset, .unset, .unset, .unset, .unset, .unset, .unset, .unset, .unset, .unset, .unset, .unset, .unset, .unset, .unset, .unset, .unset, .unset, .unset, .unset, .unset, .unset, .unset, .unset, .unset, .unset, .unset, .unset, .unset, .unset, .unset, .unset, .unset, .unset] [])) target := by
    intro target kt
    rw [me1_0] at kt
    by_cases hc10 : (4 : Int32) < (u4 &&& (7 : Int32))
    · simp only [if_pos hc10] at kt
      refine XS.iload X0.here hx rfl (hb hby at_7) rfl ?_
      refine XS.iconst X0.here hx rfl (hb hby at_9) ?_
      refine XS.icmpNo X0.here hx rfl (hb hby at_10) rfl (tlt hc10).2.2.2 ?_
      refine XS.iconst X0.here hx rfl (hb hby at_13) ?_
      refine XS.goto X0.here hx rfl (pc0 := 14) (pc' := 19) rfl (hb hby at_14) (by decide) (by decide) ?_
      exact kt
    · simp only [if_neg hc10] at kt
      refine XS.iload X0.here hx rfl (hb hby at_7) rfl ?_
      refine XS.iconst X0.here hx rfl (hb hby at_9) ?_
      refine XS.icmpYes X0.here hx rfl (pc0 := 10) (pc' := 17) rfl (hb hby at_10) rfl (flt hc10).2.2.2 (by decide) (by decide) ?_
      refine XS.iload X0.here hx rfl (hb hby at_17) rfl ?_
      exact kt
  obtain ⟨lx0, elx0⟩ : ∃ z : Int64, z = ((u0 >>> ((16 : Int32) &&& 31)).toInt64) := ⟨_, rfl⟩
  obtain ⟨ly0, ely0⟩ : ∃ z : Int64, z = ((u0.toInt16.toInt32).toInt64) := ⟨_, rfl⟩
  have st2 : ∀ target, Steps p.tables e below (s₁.setTop (mkF m 33 #[.val (.int u0), .val (.int u1), .val (.int u2), .val (.int u3), .val (.int u4), .val (.int (u4 &&& (7 : Int32))), .val (.int mv1_0), .val (.long lx0), .second, .val (.long ly0), .second, .unset, .unset, .unset, .unset, .unset, .unset, .unset, .unset, .unset, .unset, .unset, .unset, .unset, .unset, .unset, .unset, .unset, .unset, .unset, .unset, .unset, .unset, .unset, .unset, .unset, .unset, .unset, .unset, .unset] [])) target → Steps p.tables e below (s₁.setTop (mkF m 33 #[.val (.int u0), .val (.int u1), .val (.int u2), .val (.int u3), .val (.int u4), .val (.int (u4 &&& (7 : Int32))), .val (.int mv1_0), .val (.long ((u0 >>> ((16 : Int32) &&& 31)).toInt64)), .second, .val (.long ((u0.toInt16.toInt32).toInt64)), .second, .unset, .unset, .unset, .unset, .unset, .unset, .unset, .unset, .unset, .unset, .unset, .unset, .unset, .unset, .unset, .unset, .unset, .unset, .unset, .unset, .unset, .unset, .unset, .unset, .unset, .unset, .unset, .unset, .unset] [])) target := by intro target kt; rw [elx0, ely0] at kt; exact kt
  obtain ⟨lx1, elx1⟩ : ∃ z : Int64, z = ((u1 >>> ((16 : Int32) &&& 31)).toInt64) := ⟨_, rfl⟩
  obtain ⟨ly1, ely1⟩ : ∃ z : Int64, z = ((u1.toInt16.toInt32).toInt64) := ⟨_, rfl⟩
  have st3 : ∀ target, Steps p.tables e below (s₁.setTop (mkF m 45 #[.val (.int u0), .val (.int u1), .val (.int u2), .val (.int u3), .val (.int u4), .val (.int (u4 &&& (7 : Int32))), .val (.int mv1_0), .val (.long lx0), .second, .val (.long ly0), .second, .val (.long lx1), .second, .val (.long ly1), .second, .unset, .unset, .unset, .unset, .unset, .unset, .unset, .unset, .unset, .unset, .unset, .unset, .unset, .unset, .unset, .unset, .unset, .unset, .unset, .unset, .unset, .unset, .unset, .unset, .unset] [])) target → Steps p.tables e below (s₁.setTop (mkF m 45 #[.val (.int u0), .val (.int u1), .val (.int u2), .val (.int u3), .val (.int u4), .val (.int (u4 &&& (7 : Int32))), .val (.int mv1_0), .val (.long lx0), .second, .val (.long ly0), .second, .val (.long ((u1 >>> ((16 : Int32) &&& 31)).toInt64)), .second, .val (.long ((u1.toInt16.toInt32).toInt64)), .second, .unset, .unset, .unset, .unset, .unset, .unset, .unset, .unset, .unset, .unset, .unset, .unset, .unset, .unset, .unset, .unset, .unset, .unset, .unset, .unset, .unset, .unset, .unset, .unset, .unset] [])) target := by intro target kt; rw [elx1, ely1] at kt; exact kt
  obtain ⟨lx2, elx2⟩ : ∃ z : Int64, z = ((u2 >>> ((16 : Int32) &&& 31)).toInt64) := ⟨_, rfl⟩
  obtain ⟨ly2, ely2⟩ : ∃ z : Int64, z = ((u2.toInt16.toInt32).toInt64) := ⟨_, rfl⟩
  have st4 : ∀ target, Steps p.tables e below (s₁.setTop (mkF m 57 #[.val (.int u0), .val (.int u1), .val (.int u2), .val (.int u3), .val (.int u4), .val (.int (u4 &&& (7 : Int32))), .val (.int mv1_0), .val (.long lx0), .second, .val (.long ly0), .second, .val (.long lx1), .second, .val (.long ly1), .second, .val (.long lx2), .second, .val (.long ly2), .second, .unset, .unset, .unset, .unset, .unset, .unset, .unset, .unset, .unset, .unset, .unset, .unset, .unset, .unset, .unset, .unset, .unset, .unset, .unset, .unset, .unset] [])) target → Steps p.tables e below (s₁.setTop (mkF m 57 #[.val (.int u0), .val (.int u1), .val (.int u2), .val (.int u3), .val (.int u4), .val (.int (u4 &&& (7 : Int32))), .val (.int mv1_0), .val (.long lx0), .second, .val (.long ly0), .second, .val (.long lx1), .second, .val (.long ly1), .second, .val (.long ((u2 >>> ((16 : Int32) &&& 31)).toInt64)), .second, .val (.long ((u2.toInt16.toInt32).toInt64)), .second, .unset, .unset, .unset, .unset, .unset, .unset, .unset, .unset, .unset, .unset, .unset, .unset, .unset, .unset, .unset, .unset, .unset, .unset, .unset, .unset, .unset] [])) target := by intro target kt; rw [elx2, ely2] at kt; exact kt
  obtain ⟨lx3, elx3⟩ : ∃ z : Int64, z = ((u3 >>> ((16 : Int32) &&& 31)).toInt64) := ⟨_, rfl⟩
  obtain ⟨ly3, ely3⟩ : ∃ z : Int64, z = ((u3.toInt16.toInt32).toInt64) := ⟨_, rfl⟩
  have st5 : ∀ target, Steps p.tables e below (s₁.setTop (mkF m 69 #[.val (.int u0), .val (.int u1), .val (.int u2), .val (.int u3), .val (.int u4), .val (.int (u4 &&& (7 : Int32))), .val (.int mv1_0), .val (.long lx0), .second, .val (.long ly0), .second, .val (.long lx1), .second, .val (.long ly1), .second, .val (.long lx2), .second, .val (.long ly2), .second, .val (.long lx3), .second, .val (.long ly3), .second, .unset, .unset, .unset, .unset, .unset, .unset, .unset, .unset, .unset, .unset, .unset, .unset, .unset, .unset, .unset, .unset, .unset] [])) target → Steps p.tables e below (s₁.setTop (mkF m 69 #[.val (.int u0), .val (.int u1), .val (.int u2), .val (.int u3), .val (.int u4), .val (.int (u4 &&& (7 : Int32))), .val (.int mv1_0), .val (.long lx0), .second, .val (.long ly0), .second, .val (.long lx1), .second, .val (.long ly1), .second, .val (.long lx2), .second, .val (.long ly2), .second, .val (.long ((u3 >>> ((16 : Int32) &&& 31)).toInt64)), .second, .val (.long ((u3.toInt16.toInt32).toInt64)), .second, .unset, .unset, .unset, .unset, .unset, .unset, .unset, .unset, .unset, .unset, .unset, .unset, .unset, .unset, .unset, .unset, .unset] [])) target := by intro target kt; rw [elx3, ely3] at kt; exact kt
  obtain ⟨nk0, enk0⟩ : ∃ z : Int32, z = (u4 &&& (7 : Int32)) := ⟨_, rfl⟩
  obtain ⟨nk, enk⟩ : ∃ z : Int32, z = mv1_0 := ⟨_, rfl⟩
  have st6 : ∀ target, Steps p.tables e below (s₁.setTop (mkF m 69 #[.val (.int u0), .val (.int u1), .val (.int u2), .val (.int u3), .val (.int u4), .val (.int nk0), .val (.int nk), .val (.long lx0), .second, .val (.long ly0), .second, .val (.long lx1), .second, .val (.long ly1), .second, .val (.long lx2), .second, .val (.long ly2), .second, .val (.long lx3), .second, .val (.long ly3), .second, .unset, .unset, .unset, .unset, .unset, .unset, .unset, .unset, .unset, .unset, .unset, .unset, .unset, .unset, .unset, .unset, .unset] [])) target → Steps p.tables e below (s₁.setTop (mkF m 69 #[.val (.int u0), .val (.int u1), .val (.int u2), .val (.int u3), .val (.int u4), .val (.int (u4 &&& (7 : Int32))), .val (.int mv1_0), .val (.long lx0), .second, .val (.long ly0), .second, .val (.long lx1), .second, .val (.long ly1), .second, .val (.long lx2), .second, .val (.long ly2), .second, .val (.long lx3), .second, .val (.long ly3), .second, .unset, .unset, .unset, .unset, .unset, .unset, .unset, .unset, .unset, .unset, .unset, .unset, .unset, .unset, .unset, .unset, .unset] [])) target := by intro target kt; rw [enk, enk0] at kt; exact kt
  have hnk : nk = (3 : Int32) := enk.trans (me1_0.trans hk)
  obtain ⟨xda0, Lx0⟩ : ∃ i, LI i 32768 lx0 := ⟨_, elx0 ▸ LI.shr u0⟩
  obtain ⟨da0, eda0⟩ : ∃ z, z = FP.l2d lx0 := ⟨_, rfl⟩
  have Dda0 := LI.d Lx0 eda0 (by decide)
  obtain ⟨xdq0, Ly0⟩ : ∃ i, LI i 32768 ly0 := ⟨_, ely0 ▸ LI.i2s u0⟩
  obtain ⟨dq0, edq0⟩ : ∃ z, z = FP.l2d ly0 := ⟨_, rfl⟩
  have Ddq0 := LI.d Ly0 edq0 (by decide)
  obtain ⟨xda1, Lx1⟩ : ∃ i, LI i 32768 lx1 := ⟨_, elx1 ▸ LI.shr u1⟩
  obtain ⟨da1, eda1⟩ : ∃ z, z = FP.l2d lx1 := ⟨_, rfl⟩
  have Dda1 := LI.d Lx1 eda1 (by decide)
  obtain ⟨xdq1, Ly1⟩ : ∃ i, LI i 32768 ly1 := ⟨_, ely1 ▸ LI.i2s u1⟩
  obtain ⟨dq1, edq1⟩ : ∃ z, z = FP.l2d ly1 := ⟨_, rfl⟩
  have Ddq1 := LI.d Ly1 edq1 (by decide)
  obtain ⟨xda2, Lx2⟩ : ∃ i, LI i 32768 lx2 := ⟨_, elx2 ▸ LI.shr u2⟩
  obtain ⟨da2, eda2⟩ : ∃ z, z = FP.l2d lx2 := ⟨_, rfl⟩
  have Dda2 := LI.d Lx2 eda2 (by decide)
  obtain ⟨xdq2, Ly2⟩ : ∃ i, LI i 32768 ly2 := ⟨_, ely2 ▸ LI.i2s u2⟩
  obtain ⟨dq2, edq2⟩ : ∃ z, z = FP.l2d ly2 := ⟨_, rfl⟩
  have Ddq2 := LI.d Ly2 edq2 (by decide)
  obtain ⟨xda3, Lx3⟩ : ∃ i, LI i 32768 lx3 := ⟨_, elx3 ▸ LI.shr u3⟩
  obtain ⟨da3, eda3⟩ : ∃ z, z = FP.l2d lx3 := ⟨_, rfl⟩
  have Dda3 := LI.d Lx3 eda3 (by decide)
  obtain ⟨xdq3, Ly3⟩ : ∃ i, LI i 32768 ly3 := ⟨_, ely3 ▸ LI.i2s u3⟩
  obtain ⟨dq3, edq3⟩ : ∃ z, z = FP.l2d ly3 := ⟨_, rfl⟩
  have Ddq3 := LI.d Ly3 edq3 (by decide)
  replace hA : ¬ lcmpW ((((lx0 * ly1) - (lx1 * ly0)) + ((lx1 * ly2) - (lx2 * ly1))) + ((lx2 * ly0) - (lx0 * ly2))) (0 : Int64) < 0 := by rw [elx0, elx1, elx2, ely0, ely1, ely2]; exact hA
  have hL := LI.neg (LI.add (LI.add (LI.sub (LI.mul Lx0 Ly1 (by decide)) (LI.mul Lx1 Ly0 (by decide)) (by decide)) (LI.sub (LI.mul Lx1 Ly2 (by decide)) (LI.mul Lx2 Ly1 (by decide)) (by decide)) (by decide)) (LI.sub (LI.mul Lx2 Ly0 (by decide)) (LI.mul Lx0 Ly2 (by decide)) (by decide)) (by decide))
  have hB : ¬ (((((0 : Int) + ((xda0 * xdq1) - (xda1 * xdq0))) + ((xda1 * xdq2) - (xda2 * xdq1))) + ((xda2 * xdq0) - (xda0 * xdq2))) < 0) := by have q := mt hL.mpr hA; omega
  obtain ⟨_, _, ⟨T7, L7, k7, n7⟩, -, X7, ⟨Lc7, hQ7, l7, y7, z7⟩, st7⟩ := Jvm.LawKit.callS X0 hx (y := (⟨"com/example/decorum/decorum/graphics/RasterizerClockwisePinLaw", "build", "(IJJJJJJJJ)[D"⟩ : MethodName)) hown (mvT hZ (hw _ (List.mem_of_getElem? (i := 0) rfl))) (mvT hZ (hw _ (List.mem_of_getElem? (i := 1) rfl))) (mvT hZ (hw _ (List.mem_of_getElem? (i := 2) rfl))) (mvT hZ (hw _ (List.mem_of_getElem? (i := 3) rfl))) (by decide) (backOf (W := 0) (rmB3 l Z a0 hw [] nk lx0 ly0 lx1 ly1 lx2 ly2 lx3 ly3 da0 dq0 da1 dq1 da2 dq2 h0 n0 Z0 hnk eda0 edq0 eda1 edq1 eda2 edq2) hZ (hw _ (List.mem_of_getElem? (i := 3) rfl)) (hw _ (List.mem_of_getElem? (i := 2) rfl)) (by decide) (by decide)) (g := (mkF m 87 #[.val (.int u0), .val (.int u1), .val (.int u2), .val (.int u3), .val (.int u4), .val (.int nk0), .val (.int nk), .val (.long lx0), .second, .val (.long ly0), .second, .val (.long lx1), .second, .val (.long ly1), .second, .val (.long lx2), .second, .val (.long ly2), .second, .val (.long lx3), .second, .val (.long ly3), .second, .unset, .unset, .unset, .unset, .unset, .unset, .unset, .unset, .unset, .unset, .unset, .unset, .unset, .unset, .unset, .unset, .unset] [(.long ly3), (.long lx3), (.long ly2), (.long lx2), (.long ly1), (.long lx1), (.long ly0), (.long lx0), (.int nk)])) rfl (by rw [hml]; rfl) (argsL := [(.int nk), (.long lx0), (.long ly0), (.long lx1), (.long ly1), (.long lx2), (.long ly2), (.long lx3), (.long ly3)]) (rest := []) (lenOf pd_0 rfl) rfl (by show 2 * 0 + _ ≤ _; exact Nat.le_of_eq rfl) (hb hby at_87) (fun _ _ => ⟨rfl, e0, (by decide : 0 + 1 ≤ _), (by decide : 0 + 6 ≤ _)⟩)
  dsimp only [Pt.U, Pt.locs, Pt.cells, Pt.slots] at X7 l7 y7 z7 st7 hQ7
  replace y7 : k7 = 1 := y7
  replace z7 : n7 = 6 := z7
  rw [y7, z7] at X7
  obtain ⟨hv7, N7q, K7, kk7, V7⟩ := hQ7
  obtain ⟨b7, g7⟩ : ∃ z, z = h0.size := ⟨_, rfl⟩
  rw [← g7] at hv7 V7
  subst hv7
  have g_b7 : n0 ≤ b7 := Nat.le_trans Z0 (Nat.le_of_eq g7.symm)
  have sz_b7 : h0.size ≤ b7 := Nat.le_trans (Keep.refl h0 []).1 (Nat.le_of_eq g7.symm)
  have N7 : Fr n0 L7 := l7 ▸ Fr.app N0 N7q
  have Z7 : n0 ≤ T7.heap.size := Nat.le_trans Z0 K7.1
  have KK7 := (Keep.refl h0 []).trans K7 all0
  obtain ⟨_, _, ⟨T8, L8, k8, n8⟩, -, X8, ⟨Lc8, hQ8, l8, y8, z8⟩, st8⟩ := Jvm.LawKit.callS X7 hx (y := (⟨"com/example/decorum/decorum/graphics/RasterizerClockwisePinLaw", "build", "(IJJJJJJJJ)[D"⟩ : MethodName)) hown (mvT hZ (hw _ (List.mem_of_getElem? (i := 0) rfl))) (mvT hZ (hw _ (List.mem_of_getElem? (i := 1) rfl))) (mvT hZ (hw _ (List.mem_of_getElem? (i := 2) rfl))) (mvT hZ (hw _ (List.mem_of_getElem? (i := 3) rfl))) (by decide) (backOf (W := 0) (rmB3 l Z a0 hw [] nk lx0 ly0 lx1 ly1 lx2 ly2 lx3 ly3 da0 dq0 da1 dq1 da2 dq2 T7.heap n0 Z7 hnk eda0 edq0 eda1 edq1 eda2 edq2) hZ (hw _ (List.mem_of_getElem? (i := 3) rfl)) (hw _ (List.mem_of_getElem? (i := 2) rfl)) (by decide) (by decide)) (g := (mkF m 110 #[.val (.int u0), .val (.int u1), .val (.int u2), .val (.int u3), .val (.int u4), .val (.int nk0), .val (.int nk), .val (.long lx0), .second, .val (.long ly0), .second, .val (.long lx1), .second, .val (.long ly1), .second, .val (.long lx2), .second, .val (.long ly2), .second, .val (.long lx3), .second, .val (.long ly3), .second, .val (.ref b7), .unset, .unset, .unset, .unset, .unset, .unset, .unset, .unset, .unset, .unset, .unset, .unset, .unset, .unset, .unset, .unset] [(.long ly3), (.long lx3), (.long ly2), (.long lx2), (.long ly1), (.long lx1), (.long ly0), (.long lx0), (.int nk)])) rfl (by rw [hml]; rfl) (argsL := [(.int nk), (.long lx0), (.long ly0), (.long lx1), (.long ly1), (.long lx2), (.long ly2), (.long lx3), (.long ly3)]) (rest := []) (lenOf pd_0 rfl) rfl (by show 2 * 0 + _ ≤ _; exact Nat.le_of_eq rfl) (hb hby at_110) (fun _ _ => ⟨rfl, rfl, (by decide : 1 + 1 ≤ _), (by decide : 6 + 6 ≤ _)⟩)
  dsimp only [Pt.U, Pt.locs, Pt.cells, Pt.slots] at X8 l8 y8 z8 st8 hQ8
  replace y8 : k8 = 2 := y8
  replace z8 : n8 = 12 := z8
  rw [y8, z8] at X8
  obtain ⟨hv8, N8q, K8, kk8, V8⟩ := hQ8
  obtain ⟨b8, g8⟩ : ∃ z, z = T7.heap.size := ⟨_, rfl⟩
  rw [← g8] at hv8 V8
  subst hv8
  have g_b8 : n0 ≤ b8 := Nat.le_trans Z7 (Nat.le_of_eq g8.symm)
  have sz_b8 : h0.size ≤ b8 := Nat.le_trans KK7.1 (Nat.le_of_eq g8.symm)
  have N8 : Fr n0 L8 := l8 ▸ Fr.app N7 N8q
  have Z8 : n0 ≤ T8.heap.size := Nat.le_trans Z7 K8.1
  have KK8 := KK7.trans K8 all0
  obtain ⟨_, _, ⟨T9, L9, k9, n9⟩, -, X9, ⟨Lc9, hQ9, l9, y9, z9⟩, st9⟩ := Jvm.LawKit.callS X8 hx (y := (⟨"com/example/decorum/decorum/graphics/RasterizerClockwisePinLaw", "build", "(IJJJJJJJJ)[D"⟩ : MethodName)) hown (mvT hZ (hw _ (List.mem_of_getElem? (i := 0) rfl))) (mvT hZ (hw _ (List.mem_of_getElem? (i := 1) rfl))) (mvT hZ (hw _ (List.mem_of_getElem? (i := 2) rfl))) (mvT hZ (hw _ (List.mem_of_getElem? (i := 3) rfl))) (by decide) (backOf (W := 0) (rmB3 l Z a0 hw [] nk lx2 ly2 lx1 ly1 lx0 ly0 (0 : Int64) (0 : Int64) da2 dq2 da1 dq1 da0 dq0 T8.heap n0 Z8 hnk eda2 edq2 eda1 edq1 eda0 edq0) hZ (hw _ (List.mem_of_getElem? (i := 3) rfl)) (hw _ (List.mem_of_getElem? (i := 2) rfl)) (by decide) (by decide)) (g := (mkF m 160 #[.val (.int u0), .val (.int u1), .val (.int u2), .val (.int u3), .val (.int u4), .val (.int nk0), .val (.int nk), .val (.long lx0), .second, .val (.long ly0), .second, .val (.long lx1), .second, .val (.long ly1), .second, .val (.long lx2), .second, .val (.long ly2), .second, .val (.long lx3), .second, .val (.long ly3), .second, .val (.ref b7), .val (.ref b8), .unset, .unset, .unset, .unset, .unset, .unset, .unset, .unset, .unset, .unset, .unset, .unset, .unset, .unset, .unset] [(.long (0 : Int64)), (.long (0 : Int64)), (.long ly0), (.long lx0), (.long ly1), (.long lx1), (.long ly2), (.long lx2), (.int nk)])) rfl (by rw [hml]; rfl) (argsL := [(.int nk), (.long lx2), (.long ly2), (.long lx1), (.long ly1), (.long lx0), (.long ly0), (.long (0 : Int64)), (.long (0 : Int64))]) (rest := []) (lenOf pd_0 rfl) rfl (by show 2 * 0 + _ ≤ _; exact Nat.le_of_eq rfl) (hb hby at_160) (fun _ _ => ⟨rfl, rfl, (by decide : 2 + 1 ≤ _), (by decide : 12 + 6 ≤ _)⟩)
  dsimp only [Pt.U, Pt.locs, Pt.cells, Pt.slots] at X9 l9 y9 z9 st9 hQ9
  replace y9 : k9 = 3 := y9
  replace z9 : n9 = 18 := z9
  rw [y9, z9] at X9
  obtain ⟨hv9, N9q, K9, kk9, V9⟩ := hQ9
  obtain ⟨b9, g9⟩ : ∃ z, z = T8.heap.size := ⟨_, rfl⟩
  rw [← g9] at hv9 V9
  subst hv9
  have g_b9 : n0 ≤ b9 := Nat.le_trans Z8 (Nat.le_of_eq g9.symm)
  have sz_b9 : h0.size ≤ b9 := Nat.le_trans KK8.1 (Nat.le_of_eq g9.symm)
  have N9 : Fr n0 L9 := l9 ▸ Fr.app N8 N9q
  have Z9 : n0 ≤ T9.heap.size := Nat.le_trans Z8 K9.1
  have KK9 := KK8.trans K9 all0
  obtain ⟨c26, ec26⟩ : ∃ z : Int64, z = ((lx0 * ly1) - (lx1 * ly0)) := ⟨_, rfl⟩
  obtain ⟨c28, ec28⟩ : ∃ z : Int64, z = ((lx1 * ly2) - (lx2 * ly1)) := ⟨_, rfl⟩
  obtain ⟨c30, ec30⟩ : ∃ z : Int64, z = ((lx2 * ly0) - (lx0 * ly2)) := ⟨_, rfl⟩
  obtain ⟨c32, ec32⟩ : ∃ z : Int64, z = ((lx2 * ly3) - (lx3 * ly2)) := ⟨_, rfl⟩
  obtain ⟨c34, ec34⟩ : ∃ z : Int64, z = ((lx3 * ly0) - (lx0 * ly3)) := ⟨_, rfl⟩
  have st10 : ∀ target, Steps p.tables e below (T9.setTop (mkF m 230 #[.val (.int u0), .val (.int u1), .val (.int u2), .val (.int u3), .val (.int u4), .val (.int nk0), .val (.int nk), .val (.long lx0), .second, .val (.long ly0), .second, .val (.long lx1), .second, .val (.long ly1), .second, .val (.long lx2), .second, .val (.long ly2), .second, .val (.long lx3), .second, .val (.long ly3), .second, .val (.ref b7), .val (.ref b8), .val (.ref b9), .val (.long c26), .second, .val (.long c28), .second, .val (.long c30), .second, .val (.long c32), .second, .val (.long c34), .second, .unset, .unset, .unset, .unset] [])) target → Steps p.tables e below (T9.setTop (mkF m 230 #[.val (.int u0), .val (.int u1), .val (.int u2), .val (.int u3), .val (.int u4), .val (.int nk0), .val (.int nk), .val (.long lx0), .second, .val (.long ly0), .second, .val (.long lx1), .second, .val (.long ly1), .second, .val (.long lx2), .second, .val (.long ly2), .second, .val (.long lx3), .second, .val (.long ly3), .second, .val (.ref b7), .val (.ref b8), .val (.ref b9), .val (.long ((lx0 * ly1) - (lx1 * ly0))), .second, .val (.long ((lx1 * ly2) - (lx2 * ly1))), .second, .val (.long ((lx2 * ly0) - (lx0 * ly2))), .second, .val (.long ((lx2 * ly3) - (lx3 * ly2))), .second, .val (.long ((lx3 * ly0) - (lx0 * ly3))), .second, .unset, .unset, .unset, .unset] [])) target := by intro target kt; rw [ec26, ec28, ec30, ec32, ec34] at kt; exact kt
  obtain ⟨_, _, ⟨T11, L11, k11, n11⟩, -, X11, ⟨Lc11, hQ11, l11, y11, z11⟩, st11⟩ := Jvm.LawKit.callS X9 hx (y := (⟨"com/example/decorum/decorum/graphics/Rasterizer", "clockwise", "([D)[D"⟩ : MethodName)) hown (mvT hZ (hw _ (List.mem_of_getElem? (i := 5) rfl))) (mvT hZ (hw _ (List.mem_of_getElem? (i := 6) rfl))) (mvT hZ (hw _ (List.mem_of_getElem? (i := 7) rfl))) (mvT hZ (hw _ (List.mem_of_getElem? (i := 8) rfl))) (by decide) (backOf (W := 0) (rmC3 l Z a0 hw [] b7 kk7 da0 dq0 da1 dq1 da2 dq2 xda0 xdq0 xda1 xdq1 xda2 xdq2 T9.heap n0 Z9 ((V7.keep K8 nin0).keep K9 nin0) Dda0 Ddq0 Dda1 Ddq1 Dda2 Ddq2 hB) hZ (hw _ (List.mem_of_getElem? (i := 8) rfl)) (hw _ (List.mem_of_getElem? (i := 7) rfl)) (by decide) (by decide)) (g := (mkF m 273 #[.val (.int u0), .val (.int u1), .val (.int u2), .val (.int u3), .val (.int u4), .val (.int nk0), .val (.int nk), .val (.long lx0), .second, .val (.long ly0), .second, .val (.long lx1), .second, .val (.long ly1), .second, .val (.long lx2), .second, .val (.long ly2), .second, .val (.long lx3), .second, .val (.long ly3), .second, .val (.ref b7), .val (.ref b8), .val (.ref b9), .val (.long c26), .second, .val (.long c28), .second, .val (.long c30), .second, .val (.long c32), .second, .val (.long c34), .second, .val (.long ((c26 + c28) + c30)), .second, .unset, .unset] [(.ref b7)])) rfl (by rw [hml]; rfl) (argsL := [(.ref b7)]) (rest := []) (lenOf pd_1 rfl) rfl (by show 2 * 0 + _ ≤ _; exact Nat.le_of_eq rfl) (hb hby at_273) (fun _ _ => ⟨rfl, rfl, (by decide : 3 + 0 ≤ _), (by decide : 18 + 0 ≤ _)⟩)
  dsimp only [Pt.U, Pt.locs, Pt.cells, Pt.slots] at X11 l11 y11 z11 st11 hQ11
  replace y11 : k11 = 3 := y11
  replace z11 : n11 = 18 := z11
  rw [y11, z11] at X11
  obtain ⟨rfl, N11q, e11⟩ := hQ11
  have N11 : Fr n0 L11 := l11 ▸ Fr.app N9 N11q
  obtain ⟨_, _, ⟨T12, L12, k12, n12⟩, -, X12, ⟨Lc12, hQ12, l12, y12, z12⟩, st12⟩ := Jvm.LawKit.callS X11 hx (y := (⟨"com/example/decorum/decorum/graphics/RasterizerClockwisePinLaw", "same", "([D[D)Z"⟩ : MethodName)) hown (mvT hZ (hw _ (List.mem_of_getElem? (i := 9) rfl))) (mvT hZ (hw _ (List.mem_of_getElem? (i := 10) rfl))) (mvT hZ (hw _ (List.mem_of_getElem? (i := 2) rfl))) (mvT hZ (hw _ (List.mem_of_getElem? (i := 11) rfl))) (by decide) (backOf (W := 0) (rmS3 l Z a0 hw [] b7 b8 kk7 kk8 da0 dq0 da1 dq1 da2 dq2 T9.heap n0 Z9 ((V7.keep K8 nin0).keep K9 nin0) (V8.keep K9 nin0) Dda0.nn Ddq0.nn Dda1.nn Ddq1.nn Dda2.nn Ddq2.nn) hZ (hw _ (List.mem_of_getElem? (i := 11) rfl)) (hw _ (List.mem_of_getElem? (i := 2) rfl)) (by decide) (by decide)) (g := (mkF m 282 #[.val (.int u0), .val (.int u1), .val (.int u2), .val (.int u3), .val (.int u4), .val (.int nk0), .val (.int nk), .val (.long lx0), .second, .val (.long ly0), .second, .val (.long lx1), .second, .val (.long ly1), .second, .val (.long lx2), .second, .val (.long ly2), .second, .val (.long lx3), .second, .val (.long ly3), .second, .val (.ref b7), .val (.ref b8), .val (.ref b9), .val (.long c26), .second, .val (.long c28), .second, .val (.long c30), .second, .val (.long c32), .second, .val (.long c34), .second, .val (.long ((c26 + c28) + c30)), .second, .val (.ref b7), .unset] [(.ref b8), (.ref b7)])) rfl (by rw [hml]; rfl) (argsL := [(.ref b7), (.ref b8)]) (rest := []) (lenOf pd_2 rfl) rfl (by show 2 * 0 + _ ≤ _; exact Nat.le_of_eq rfl) (hb hby at_282) (fun _ _ => ⟨rfl, e11, (by decide : 3 + 0 ≤ _), (by decide : 18 + 0 ≤ _)⟩)
  dsimp only [Pt.U, Pt.locs, Pt.cells, Pt.slots] at X12 l12 y12 z12 st12 hQ12
  replace y12 : k12 = 3 := y12
  replace z12 : n12 = 18 := z12
  rw [y12, z12] at X12
  obtain ⟨rfl, N12q, e12⟩ := hQ12
  have N12 : Fr n0 L12 := l12 ▸ Fr.app N11 N12q
  obtain ⟨fs, hr, hrun, hended, hW, hsame⟩ := X12.leave (v := some (.int (1 : Int32))) (fun h => by rw [Bd.returns] at h; cases h)
  refine ⟨_, _, pre0 _ ?_, hrun, hended, _, _, rfl, ?_, ⟨_, rfl⟩, hW, hsame.mono (by decide) (by decide)⟩
  · show Steps p.tables e below (s₁.setTop (mkF m 0 #[.val (.int u0), .val (.int u1), .val (.int u2), .val (.int u3), .val (.int u4), .unset, .unset, .unset, .unset, .unset, .unset, .unset, .unset, .unset, .unset, .unset, .unset, .unset, .unset, .unset, .unset, .unset, .unset, .unset, .unset, .unset, .unset, .unset, .unset, .unset, .unset, .unset, .unset, .unset, .unset, .unset, .unset, .unset, .unset, .unset] [])) _
    refine XS.iload X0.here hx rfl (hb hby at_0) rfl ?_
    refine XS.bipush X0.here hx rfl (hb hby at_2) ?_
    show Steps p.tables e below (s₁.setTop (mkF m 4 #[.val (.int u0), .val (.int u1), .val (.int u2), .val (.int u3), .val (.int u4), .unset, .unset, .unset, .unset, .unset, .unset, .unset, .unset, .unset, .unset, .unset, .unset, .unset, .unset, .unset, .unset, .unset, .unset, .unset, .unset, .unset, .unset, .unset, .unset, .unset, .unset, .unset, .unset, .unset, .unset, .unset, .unset, .unset, .unset, .unset] [(.int (7 : Int32)), (.int u4)])) _
    refine XS.iand X0.here hx rfl (hb hby at_4) rfl ?_
    show Steps p.tables e below (s₁.setTop (mkF m 5 #[.val (.int u0), .val (.int u1), .val (.int u2), .val (.int u3), .val (.int u4), .unset, .unset, .unset, .unset, .unset, .unset, .unset, .unset, .unset, .unset, .unset, .unset, .unset, .unset, .unset, .unset, .unset, .unset, .unset, .unset, .unset, .unset, .unset, .unset, .unset, .unset, .unset, .unset, .unset, .unset, .unset, .unset, .unset, .unset, .unset] [(.int (u4 &&& (7 : Int32)))])) _
    refine XS.istore X0.here hx rfl (hb hby at_5) rfl (l' := #[.val (.int u0), .val (.int u1), .val (.int u2), .val (.int u3), .val (.int u4), .val (.int (u4 &&& (7 : Int32))), .unset, .unset, .unset, .unset, .unset, .unset, .unset, .unset, .unset, .unset, .unset, .unset, .unset, .unset, .unset, .unset, .unset, .unset, .unset, .unset, .unset, .unset, .unset, .unset, .unset, .unset, .unset, .unset, .unset, .unset, .unset, .unset, .unset, .unset]) rfl ?_
    refine st1 _ ?_
    refine XS.istore X0.here hx rfl (hb hby at_19) rfl (l' := #[.val (.int u0), .val (.int u1), .val (.int u2), .val (.int u3), .val (.int u4), .val (.int (u4 &&& (7 : Int32))), .val (.int mv1_0), .unset, .unset, .unset, .unset, .unset, .unset, .unset, .unset, .unset, .unset, .unset, .unset, .unset, .unset, .unset, .unset, .unset, .unset, .unset, .unset, .unset, .unset, .unset, .unset, .unset, .unset, .unset, .unset, .unset, .unset, .unset, .unset, .unset]) rfl ?_
    refine XS.iloadN X0.here hx rfl (hb hby at_21) rfl ?_
    refine XS.bipush X0.here hx rfl (hb hby at_22) ?_
    refine XS.ishr X0.here hx rfl (hb hby at_24) rfl ?_
    refine XS.i2l X0.here hx rfl (hb hby at_25) rfl ?_
    refine XS.lstore X0.here hx rfl (hb hby at_26) rfl (l' := #[.val (.int u0), .val (.int u1), .val (.int u2), .val (.int u3), .val (.int u4), .val (.int (u4 &&& (7 : Int32))), .val (.int mv1_0), .val (.long ((u0 >>> ((16 : Int32) &&& 31)).toInt64)), .second, .unset, .unset, .unset, .unset, .unset, .unset, .unset, .unset, .unset, .unset, .unset, .unset, .unset, .unset, .unset, .unset, .unset, .unset, .unset, .unset, .unset, .unset, .unset, .unset, .unset, .unset, .unset, .unset, .unset, .unset, .unset]) rfl ?_
    refine XS.iloadN X0.here hx rfl (hb hby at_28) rfl ?_
    refine XS.i2s X0.here hx rfl (hb hby at_29) rfl ?_
    refine XS.i2l X0.here hx rfl (hb hby at_30) rfl ?_
    refine XS.lstore X0.here hx rfl (hb hby at_31) rfl (l' := #[.val (.int u0), .val (.int u1), .val (.int u2), .val (.int u3), .val (.int u4), .val (.int (u4 &&& (7 : Int32))), .val (.int mv1_0), .val (.long ((u0 >>> ((16 : Int32) &&& 31)).toInt64)), .second, .val (.long ((u0.toInt16.toInt32).toInt64)), .second, .unset, .unset, .unset, .unset, .unset, .unset, .unset, .unset, .unset, .unset, .unset, .unset, .unset, .unset, .unset, .unset, .unset, .unset, .unset, .unset, .unset, .unset, .unset, .unset, .unset, .unset, .unset, .unset, .unset]) rfl ?_
    refine st2 _ ?_
    show Steps p.tables e below (s₁.setTop (mkF m 33 #[.val (.int u0), .val (.int u1), .val (.int u2), .val (.int u3), .val (.int u4), .val (.int (u4 &&& (7 : Int32))), .val (.int mv1_0), .val (.long lx0), .second, .val (.long ly0), .second, .unset, .unset, .unset, .unset, .unset, .unset, .unset, .unset, .unset, .unset, .unset, .unset, .unset, .unset, .unset, .unset, .unset, .unset, .unset, .unset, .unset, .unset, .unset, .unset, .unset, .unset, .unset, .unset, .unset] [])) _
    refine XS.iloadN X0.here hx rfl (hb hby at_33) rfl ?_
    refine XS.bipush X0.here hx rfl (hb hby at_34) ?_
    refine XS.ishr X0.here hx rfl (hb hby at_36) rfl ?_
    refine XS.i2l X0.here hx rfl (hb hby at_37) rfl ?_
    refine XS.lstore X0.here hx rfl (hb hby at_38) rfl (l' := #[.val (.int u0), .val (.int u1), .val (.int u2), .val (.int u3), .val (.int u4), .val (.int (u4 &&& (7 : Int32))), .val (.int mv1_0), .val (.long lx0), .second, .val (.long ly0), .second, .val (.long ((u1 >>> ((16 : Int32) &&& 31)).toInt64)), .second, .unset, .unset, .unset, .unset, .unset, .unset, .unset, .unset, .unset, .unset, .unset, .unset, .unset, .unset, .unset, .unset, .unset, .unset, .unset, .unset, .unset, .unset, .unset, .unset, .unset, .unset, .unset]) rfl ?_
    refine XS.iloadN X0.here hx rfl (hb hby at_40) rfl ?_
    refine XS.i2s X0.here hx rfl (hb hby at_41) rfl ?_
    refine XS.i2l X0.here hx rfl (hb hby at_42) rfl ?_
    refine XS.lstore X0.here hx rfl (hb hby at_43) rfl (l' := #[.val (.int u0), .val (.int u1), .val (.int u2), .val (.int u3), .val (.int u4), .val (.int (u4 &&& (7 : Int32))), .val (.int mv1_0), .val (.long lx0), .second, .val (.long ly0), .second, .val (.long ((u1 >>> ((16 : Int32) &&& 31)).toInt64)), .second, .val (.long ((u1.toInt16.toInt32).toInt64)), .second, .unset, .unset, .unset, .unset, .unset, .unset, .unset, .unset, .unset, .unset, .unset, .unset, .unset, .unset, .unset, .unset, .unset, .unset, .unset, .unset, .unset, .unset, .unset, .unset, .unset]) rfl ?_
    refine st3 _ ?_
    show Steps p.tables e below (s₁.setTop (mkF m 45 #[.val (.int u0), .val (.int u1), .val (.int u2), .val (.int u3), .val (.int u4), .val (.int (u4 &&& (7 : Int32))), .val (.int mv1_0), .val (.long lx0), .second, .val (.long ly0), .second, .val (.long lx1), .second, .val (.long ly1), .second, .unset, .unset, .unset, .unset, .unset, .unset, .unset, .unset, .unset, .unset, .unset, .unset, .unset, .unset, .unset, .unset, .unset, .unset, .unset, .unset, .unset, .unset, .unset, .unset, .unset] [])) _
    refine XS.iloadN X0.here hx rfl (hb hby at_45) rfl ?_
    refine XS.bipush X0.here hx rfl (hb hby at_46) ?_
    refine XS.ishr X0.here hx rfl (hb hby at_48) rfl ?_
    refine XS.i2l X0.here hx rfl (hb hby at_49) rfl ?_
    refine XS.lstore X0.here hx rfl (hb hby at_50) rfl (l' := #[.val (.int u0), .val (.int u1), .val (.int u2), .val (.int u3), .val (.int u4), .val (.int (u4 &&& (7 : Int32))), .val (.int mv1_0), .val (.long lx0), .second, .val (.long ly0), .second, .val (.long lx1), .second, .val (.long ly1), .second, .val (.long ((u2 >>> ((16 : Int32) &&& 31)).toInt64)), .second, .unset, .unset, .unset, .unset, .unset, .unset, .unset, .unset, .unset, .unset, .unset, .unset, .unset, .unset, .unset, .unset, .unset, .unset, .unset, .unset, .unset, .unset, .unset]) rfl ?_
    refine XS.iloadN X0.here hx rfl (hb hby at_52) rfl ?_
    refine XS.i2s X0.here hx rfl (hb hby at_53) rfl ?_
    refine XS.i2l X0.here hx rfl (hb hby at_54) rfl ?_
    refine XS.lstore X0.here hx rfl (hb hby at_55) rfl (l' := #[.val (.int u0), .val (.int u1), .val (.int u2), .val (.int u3), .val (.int u4), .val (.int (u4 &&& (7 : Int32))), .val (.int mv1_0), .val (.long lx0), .second, .val (.long ly0), .second, .val (.long lx1), .second, .val (.long ly1), .second, .val (.long ((u2 >>> ((16 : Int32) &&& 31)).toInt64)), .second, .val (.long ((u2.toInt16.toInt32).toInt64)), .second, .unset, .unset, .unset, .unset, .unset, .unset, .unset, .unset, .unset, .unset, .unset, .unset, .unset, .unset, .unset, .unset, .unset, .unset, .unset, .unset, .unset]) rfl ?_
    refine st4 _ ?_
    show Steps p.tables e below (s₁.setTop (mkF m 57 #[.val (.int u0), .val (.int u1), .val (.int u2), .val (.int u3), .val (.int u4), .val (.int (u4 &&& (7 : Int32))), .val (.int mv1_0), .val (.long lx0), .second, .val (.long ly0), .second, .val (.long lx1), .second, .val (.long ly1), .second, .val (.long lx2), .second, .val (.long ly2), .second, .unset, .unset, .unset, .unset, .unset, .unset, .unset, .unset, .unset, .unset, .unset, .unset, .unset, .unset, .unset, .unset, .unset, .unset, .unset, .unset, .unset] [])) _
    refine XS.iloadN X0.here hx rfl (hb hby at_57) rfl ?_
    refine XS.bipush X0.here hx rfl (hb hby at_58) ?_
    refine XS.ishr X0.here hx rfl (hb hby at_60) rfl ?_
    refine XS.i2l X0.here hx rfl (hb hby at_61) rfl ?_
    refine XS.lstore X0.here hx rfl (hb hby at_62) rfl (l' := #[.val (.int u0), .val (.int u1), .val (.int u2), .val (.int u3), .val (.int u4), .val (.int (u4 &&& (7 : Int32))), .val (.int mv1_0), .val (.long lx0), .second, .val (.long ly0), .second, .val (.long lx1), .second, .val (.long ly1), .second, .val (.long lx2), .second, .val (.long ly2), .second, .val (.long ((u3 >>> ((16 : Int32) &&& 31)).toInt64)), .second, .unset, .unset, .unset, .unset, .unset, .unset, .unset, .unset, .unset, .unset, .unset, .unset, .unset, .unset, .unset, .unset, .unset, .unset, .unset]) rfl ?_
    refine XS.iloadN X0.here hx rfl (hb hby at_64) rfl ?_
    refine XS.i2s X0.here hx rfl (hb hby at_65) rfl ?_
    refine XS.i2l X0.here hx rfl (hb hby at_66) rfl ?_
    refine XS.lstore X0.here hx rfl (hb hby at_67) rfl (l' := #[.val (.int u0), .val (.int u1), .val (.int u2), .val (.int u3), .val (.int u4), .val (.int (u4 &&& (7 : Int32))), .val (.int mv1_0), .val (.long lx0), .second, .val (.long ly0), .second, .val (.long lx1), .second, .val (.long ly1), .second, .val (.long lx2), .second, .val (.long ly2), .second, .val (.long ((u3 >>> ((16 : Int32) &&& 31)).toInt64)), .second, .val (.long ((u3.toInt16.toInt32).toInt64)), .second, .unset, .unset, .unset, .unset, .unset, .unset, .unset, .unset, .unset, .unset, .unset, .unset, .unset, .unset, .unset, .unset, .unset]) rfl ?_
    refine st5 _ ?_
    refine st6 _ ?_
    show Steps p.tables e below (s₁.setTop (mkF m 69 #[.val (.int u0), .val (.int u1), .val (.int u2), .val (.int u3), .val (.int u4), .val (.int nk0), .val (.int nk), .val (.long lx0), .second, .val (.long ly0), .second, .val (.long lx1), .second, .val (.long ly1), .second, .val (.long lx2), .second, .val (.long ly2), .second, .val (.long lx3), .second, .val (.long ly3), .second, .unset, .unset, .unset, .unset, .unset, .unset, .unset, .unset, .unset, .unset, .unset, .unset, .unset, .unset, .unset, .unset, .unset] [])) _
    refine XS.iload X0.here hx rfl (hb hby at_69) rfl ?_
    refine XS.lload X0.here hx rfl (hb hby at_71) rfl ?_
    refine XS.lload X0.here hx rfl (hb hby at_73) rfl ?_
    refine XS.lload X0.here hx rfl (hb hby at_75) rfl ?_
    refine XS.lload X0.here hx rfl (hb hby at_77) rfl ?_
    refine XS.lload X0.here hx rfl (hb hby at_79) rfl ?_
    refine XS.lload X0.here hx rfl (hb hby at_81) rfl ?_
    refine XS.lload X0.here hx rfl (hb hby at_83) rfl ?_
    refine XS.lload X0.here hx rfl (hb hby at_85) rfl ?_
    refine st7 _ ?_
    show Steps p.tables e below (T7.setTop (mkF m 90 #[.val (.int u0), .val (.int u1), .val (.int u2), .val (.int u3), .val (.int u4), .val (.int nk0), .val (.int nk), .val (.long lx0), .second, .val (.long ly0), .second, .val (.long lx1), .second, .val (.long ly1), .second, .val (.long lx2), .second, .val (.long ly2), .second, .val (.long lx3), .second, .val (.long ly3), .second, .unset, .unset, .unset, .unset, .unset, .unset, .unset, .unset, .unset, .unset, .unset, .unset, .unset, .unset, .unset, .unset, .unset] [(.ref b7)])) _
    refine XS.astore X7.here hx rfl (hb hby at_90) rfl rfl (l' := #[.val (.int u0), .val (.int u1), .val (.int u2), .val (.int u3), .val (.int u4), .val (.int nk0), .val (.int nk), .val (.long lx0), .second, .val (.long ly0), .second, .val (.long lx1), .second, .val (.long ly1), .second, .val (.long lx2), .second, .val (.long ly2), .second, .val (.long lx3), .second, .val (.long ly3), .second, .val (.ref b7), .unset, .unset, .unset, .unset, .unset, .unset, .unset, .unset, .unset, .unset, .unset, .unset, .unset, .unset, .unset, .unset]) rfl ?_
    refine XS.iload X7.here hx rfl (hb hby at_92) rfl ?_
    refine XS.lload X7.here hx rfl (hb hby at_94) rfl ?_
    refine XS.lload X7.here hx rfl (hb hby at_96) rfl ?_
    refine XS.lload X7.here hx rfl (hb hby at_98) rfl ?_
    refine XS.lload X7.here hx rfl (hb hby at_100) rfl ?_
    refine XS.lload X7.here hx rfl (hb hby at_102) rfl ?_
    refine XS.lload X7.here hx rfl (hb hby at_104) rfl ?_
    refine XS.lload X7.here hx rfl (hb hby at_106) rfl ?_
    refine XS.lload X7.here hx rfl (hb hby at_108) rfl ?_
    refine st8 _ ?_
    show Steps p.tables e below (T8.setTop (mkF m 113 #[.val (.int u0), .val (.int u1), .val (.int u2), .val (.int u3), .val (.int u4), .val (.int nk0), .val (.int nk), .val (.long lx0), .second, .val (.long ly0), .second, .val (.long lx1), .second, .val (.long ly1), .second, .val (.long lx2), .second, .val (.long ly2), .second, .val (.long lx3), .second, .val (.long ly3), .second, .val (.ref b7), .unset, .unset, .unset, .unset, .unset, .unset, .unset, .unset, .unset, .unset, .unset, .unset, .unset, .unset, .unset, .unset] [(.ref b8)])) _
    refine XS.astore X8.here hx rfl (hb hby at_113) rfl rfl (l' := #[.val (.int u0), .val (.int u1), .val (.int u2), .val (.int u3), .val (.int u4), .val (.int nk0), .val (.int nk), .val (.long lx0), .second, .val (.long ly0), .second, .val (.long lx1), .second, .val (.long ly1), .second, .val (.long lx2), .second, .val (.long ly2), .second, .val (.long lx3), .second, .val (.long ly3), .second, .val (.ref b7), .val (.ref b8), .unset, .unset, .unset, .unset, .unset, .unset, .unset, .unset, .unset, .unset, .unset, .unset, .unset, .unset, .unset]) rfl ?_
    refine XS.iload X8.here hx rfl (hb hby at_115) rfl ?_
    refine XS.iconst X8.here hx rfl (hb hby at_117) ?_
    refine XS.icmpYes X8.here hx rfl (pc0 := 118) (pc' := 144) rfl (hb hby at_118) rfl (feq (by rw [hnk]; decide)).2 (by decide) (by decide) ?_
    refine XS.iload X8.here hx rfl (hb hby at_144) rfl ?_
    refine XS.lload X8.here hx rfl (hb hby at_146) rfl ?_
    refine XS.lload X8.here hx rfl (hb hby at_148) rfl ?_
    refine XS.lload X8.here hx rfl (hb hby at_150) rfl ?_
    refine XS.lload X8.here hx rfl (hb hby at_152) rfl ?_
    refine XS.lload X8.here hx rfl (hb hby at_154) rfl ?_
    refine XS.lload X8.here hx rfl (hb hby at_156) rfl ?_
    refine XS.lconst X8.here hx rfl (hb hby at_158) ?_
    refine XS.lconst X8.here hx rfl (hb hby at_159) ?_
    refine st9 _ ?_
    show Steps p.tables e below (T9.setTop (mkF m 163 #[.val (.int u0), .val (.int u1), .val (.int u2), .val (.int u3), .val (.int u4), .val (.int nk0), .val (.int nk), .val (.long lx0), .second, .val (.long ly0), .second, .val (.long lx1), .second, .val (.long ly1), .second, .val (.long lx2), .second, .val (.long ly2), .second, .val (.long lx3), .second, .val (.long ly3), .second, .val (.ref b7), .val (.ref b8), .unset, .unset, .unset, .unset, .unset, .unset, .unset, .unset, .unset, .unset, .unset, .unset, .unset, .unset, .unset] [(.ref b9)])) _
    refine XS.astore X9.here hx rfl (hb hby at_163) rfl rfl (l' := #[.val (.int u0), .val (.int u1), .val (.int u2), .val (.int u3), .val (.int u4), .val (.int nk0), .val (.int nk), .val (.long lx0), .second, .val (.long ly0), .second, .val (.long lx1), .second, .val (.long ly1), .second, .val (.long lx2), .second, .val (.long ly2), .second, .val (.long lx3), .second, .val (.long ly3), .second, .val (.ref b7), .val (.ref b8), .val (.ref b9), .unset, .unset, .unset, .unset, .unset, .unset, .unset, .unset, .unset, .unset, .unset, .unset, .unset, .unset]) rfl ?_
    refine XS.lload X9.here hx rfl (hb hby at_165) rfl ?_
    refine XS.lload X9.here hx rfl (hb hby at_167) rfl ?_
    refine XS.lmul X9.here hx rfl (hb hby at_169) rfl ?_
    refine XS.lload X9.here hx rfl (hb hby at_170) rfl ?_
    refine XS.lload X9.here hx rfl (hb hby at_172) rfl ?_
    refine XS.lmul X9.here hx rfl (hb hby at_174) rfl ?_
    refine XS.lsub X9.here hx rfl (hb hby at_175) rfl ?_
    refine XS.lstore X9.here hx rfl (hb hby at_176) rfl (l' := #[.val (.int u0), .val (.int u1), .val (.int u2), .val (.int u3), .val (.int u4), .val (.int nk0), .val (.int nk), .val (.long lx0), .second, .val (.long ly0), .second, .val (.long lx1), .second, .val (.long ly1), .second, .val (.long lx2), .second, .val (.long ly2), .second, .val (.long lx3), .second, .val (.long ly3), .second, .val (.ref b7), .val (.ref b8), .val (.ref b9), .val (.long ((lx0 * ly1) - (lx1 * ly0))), .second, .unset, .unset, .unset, .unset, .unset, .unset, .unset, .unset, .unset, .unset, .unset, .unset]) rfl ?_
    refine XS.lload X9.here hx rfl (hb hby at_178) rfl ?_
    refine XS.lload X9.here hx rfl (hb hby at_180) rfl ?_
    refine XS.lmul X9.here hx rfl (hb hby at_182) rfl ?_
    refine XS.lload X9.here hx rfl (hb hby at_183) rfl ?_
    refine XS.lload X9.here hx rfl (hb hby at_185) rfl ?_
    refine XS.lmul X9.here hx rfl (hb hby at_187) rfl ?_
    refine XS.lsub X9.here hx rfl (hb hby at_188) rfl ?_
    refine XS.lstore X9.here hx rfl (hb hby at_189) rfl (l' := #[.val (.int u0), .val (.int u1), .val (.int u2), .val (.int u3), .val (.int u4), .val (.int nk0), .val (.int nk), .val (.long lx0), .second, .val (.long ly0), .second, .val (.long lx1), .second, .val (.long ly1), .second, .val (.long lx2), .second, .val (.long ly2), .second, .val (.long lx3), .second, .val (.long ly3), .second, .val (.ref b7), .val (.ref b8), .val (.ref b9), .val (.long ((lx0 * ly1) - (lx1 * ly0))), .second, .val (.long ((lx1 * ly2) - (lx2 * ly1))), .second, .unset, .unset, .unset, .unset, .unset, .unset, .unset, .unset, .unset, .unset]) rfl ?_
    refine XS.lload X9.here hx rfl (hb hby at_191) rfl ?_
    refine XS.lload X9.here hx rfl (hb hby at_193) rfl ?_
    refine XS.lmul X9.here hx rfl (hb hby at_195) rfl ?_
    refine XS.lload X9.here hx rfl (hb hby at_196) rfl ?_
    refine XS.lload X9.here hx rfl (hb hby at_198) rfl ?_
    refine XS.lmul X9.here hx rfl (hb hby at_200) rfl ?_
    refine XS.lsub X9.here hx rfl (hb hby at_201) rfl ?_
    refine XS.lstore X9.here hx rfl (hb hby at_202) rfl (l' := #[.val (.int u0), .val (.int u1), .val (.int u2), .val (.int u3), .val (.int u4), .val (.int nk0), .val (.int nk), .val (.long lx0), .second, .val (.long ly0), .second, .val (.long lx1), .second, .val (.long ly1), .second, .val (.long lx2), .second, .val (.long ly2), .second, .val (.long lx3), .second, .val (.long ly3), .second, .val (.ref b7), .val (.ref b8), .val (.ref b9), .val (.long ((lx0 * ly1) - (lx1 * ly0))), .second, .val (.long ((lx1 * ly2) - (lx2 * ly1))), .second, .val (.long ((lx2 * ly0) - (lx0 * ly2))), .second, .unset, .unset, .unset, .unset, .unset, .unset, .unset, .unset]) rfl ?_
    show Steps p.tables e below (T9.setTop (mkF m 204 #[.val (.int u0), .val (.int u1), .val (.int u2), .val (.int u3), .val (.int u4), .val (.int nk0), .val (.int nk), .val (.long lx0), .second, .val (.long ly0), .second, .val (.long lx1), .second, .val (.long ly1), .second, .val (.long lx2), .second, .val (.long ly2), .second, .val (.long lx3), .second, .val (.long ly3), .second, .val (.ref b7), .val (.ref b8), .val (.ref b9), .val (.long ((lx0 * ly1) - (lx1 * ly0))), .second, .val (.long ((lx1 * ly2) - (lx2 * ly1))), .second, .val (.long ((lx2 * ly0) - (lx0 * ly2))), .second, .unset, .unset, .unset, .unset, .unset, .unset, .unset, .unset] [])) _
    refine XS.lload X9.here hx rfl (hb hby at_204) rfl ?_
    refine XS.lload X9.here hx rfl (hb hby at_206) rfl ?_
    refine XS.lmul X9.here hx rfl (hb hby at_208) rfl ?_
    refine XS.lload X9.here hx rfl (hb hby at_209) rfl ?_
    refine XS.lload X9.here hx rfl (hb hby at_211) rfl ?_
    refine XS.lmul X9.here hx rfl (hb hby at_213) rfl ?_
    refine XS.lsub X9.here hx rfl (hb hby at_214) rfl ?_
    refine XS.lstore X9.here hx rfl (hb hby at_215) rfl (l' := #[.val (.int u0), .val (.int u1), .val (.int u2), .val (.int u3), .val (.int u4), .val (.int nk0), .val (.int nk), .val (.long lx0), .second, .val (.long ly0), .second, .val (.long lx1), .second, .val (.long ly1), .second, .val (.long lx2), .second, .val (.long ly2), .second, .val (.long lx3), .second, .val (.long ly3), .second, .val (.ref b7), .val (.ref b8), .val (.ref b9), .val (.long ((lx0 * ly1) - (lx1 * ly0))), .second, .val (.long ((lx1 * ly2) - (lx2 * ly1))), .second, .val (.long ((lx2 * ly0) - (lx0 * ly2))), .second, .val (.long ((lx2 * ly3) - (lx3 * ly2))), .second, .unset, .unset, .unset, .unset, .unset, .unset]) rfl ?_
    refine XS.lload X9.here hx rfl (hb hby at_217) rfl ?_
    refine XS.lload X9.here hx rfl (hb hby at_219) rfl ?_
    refine XS.lmul X9.here hx rfl (hb hby at_221) rfl ?_
    refine XS.lload X9.here hx rfl (hb hby at_222) rfl ?_
    refine XS.lload X9.here hx rfl (hb hby at_224) rfl ?_
    refine XS.lmul X9.here hx rfl (hb hby at_226) rfl ?_
    refine XS.lsub X9.here hx rfl (hb hby at_227) rfl ?_
    refine XS.lstore X9.here hx rfl (hb hby at_228) rfl (l' := #[.val (.int u0), .val (.int u1), .val (.int u2), .val (.int u3), .val (.int u4), .val (.int nk0), .val (.int nk), .val (.long lx0), .second, .val (.long ly0), .second, .val (.long lx1), .second, .val (.long ly1), .second, .val (.long lx2), .second, .val (.long ly2), .second, .val (.long lx3), .second, .val (.long ly3), .second, .val (.ref b7), .val (.ref b8), .val (.ref b9), .val (.long ((lx0 * ly1) - (lx1 * ly0))), .second, .val (.long ((lx1 * ly2) - (lx2 * ly1))), .second, .val (.long ((lx2 * ly0) - (lx0 * ly2))), .second, .val (.long ((lx2 * ly3) - (lx3 * ly2))), .second, .val (.long ((lx3 * ly0) - (lx0 * ly3))), .second, .unset, .unset, .unset, .unset]) rfl ?_
    refine st10 _ ?_
    show Steps p.tables e below (T9.setTop (mkF m 230 #[.val (.int u0), .val (.int u1), .val (.int u2), .val (.int u3), .val (.int u4), .val (.int nk0), .val (.int nk), .val (.long lx0), .second, .val (.long ly0), .second, .val (.long lx1), .second, .val (.long ly1), .second, .val (.long lx2), .second, .val (.long ly2), .second, .val (.long lx3), .second, .val (.long ly3), .second, .val (.ref b7), .val (.ref b8), .val (.ref b9), .val (.long c26), .second, .val (.long c28), .second, .val (.long c30), .second, .val (.long c32), .second, .val (.long c34), .second, .unset, .unset, .unset, .unset] [])) _
    refine XS.lconst X9.here hx rfl (hb hby at_230) ?_
    refine XS.lstore X9.here hx rfl (hb hby at_231) rfl (l' := #[.val (.int u0), .val (.int u1), .val (.int u2), .val (.int u3), .val (.int u4), .val (.int nk0), .val (.int nk), .val (.long lx0), .second, .val (.long ly0), .second, .val (.long lx1), .second, .val (.long ly1), .second, .val (.long lx2), .second, .val (.long ly2), .second, .val (.long lx3), .second, .val (.long ly3), .second, .val (.ref b7), .val (.ref b8), .val (.ref b9), .val (.long c26), .second, .val (.long c28), .second, .val (.long c30), .second, .val (.long c32), .second, .val (.long c34), .second, .val (.long (0 : Int64)), .second, .unset, .unset]) rfl ?_
    refine XS.iload X9.here hx rfl (hb hby at_233) rfl ?_
    refine XS.iconst X9.here hx rfl (hb hby at_235) ?_
    refine XS.icmpNo X9.here hx rfl (hb hby at_236) rfl (teq hnk).2 ?_
    refine XS.lload X9.here hx rfl (hb hby at_239) rfl ?_
    refine XS.lload X9.here hx rfl (hb hby at_241) rfl ?_
    refine XS.ladd X9.here hx rfl (hb hby at_243) rfl ?_
    refine XS.lload X9.here hx rfl (hb hby at_244) rfl ?_
    refine XS.ladd X9.here hx rfl (hb hby at_246) rfl ?_
    refine XS.lstore X9.here hx rfl (hb hby at_247) rfl (l' := #[.val (.int u0), .val (.int u1), .val (.int u2), .val (.int u3), .val (.int u4), .val (.int nk0), .val (.int nk), .val (.long lx0), .second, .val (.long ly0), .second, .val (.long lx1), .second, .val (.long ly1), .second, .val (.long lx2), .second, .val (.long ly2), .second, .val (.long lx3), .second, .val (.long ly3), .second, .val (.ref b7), .val (.ref b8), .val (.ref b9), .val (.long c26), .second, .val (.long c28), .second, .val (.long c30), .second, .val (.long c32), .second, .val (.long c34), .second, .val (.long ((c26 + c28) + c30)), .second, .unset, .unset]) rfl ?_
    refine XS.goto X9.here hx rfl (pc0 := 249) (pc' := 271) rfl (hb hby at_249) (by decide) (by decide) ?_
    refine XS.aload X9.here hx rfl (hb hby at_271) rfl rfl ?_
    refine st11 _ ?_
    show Steps p.tables e below (T11.setTop (mkF m 276 #[.val (.int u0), .val (.int u1), .val (.int u2), .val (.int u3), .val (.int u4), .val (.int nk0), .val (.int nk), .val (.long lx0), .second, .val (.long ly0), .second, .val (.long lx1), .second, .val (.long ly1), .second, .val (.long lx2), .second, .val (.long ly2), .second, .val (.long lx3), .second, .val (.long ly3), .second, .val (.ref b7), .val (.ref b8), .val (.ref b9), .val (.long c26), .second, .val (.long c28), .second, .val (.long c30), .second, .val (.long c32), .second, .val (.long c34), .second, .val (.long ((c26 + c28) + c30)), .second, .unset, .unset] [(.ref b7)])) _
    refine XS.astore X11.here hx rfl (hb hby at_276) rfl rfl (l' := #[.val (.int u0), .val (.int u1), .val (.int u2), .val (.int u3), .val (.int u4), .val (.int nk0), .val (.int nk), .val (.long lx0), .second, .val (.long ly0), .second, .val (.long lx1), .second, .val (.long ly1), .second, .val (.long lx2), .second, .val (.long ly2), .second, .val (.long lx3), .second, .val (.long ly3), .second, .val (.ref b7), .val (.ref b8), .val (.ref b9), .val (.long c26), .second, .val (.long c28), .second, .val (.long c30), .second, .val (.long c32), .second, .val (.long c34), .second, .val (.long ((c26 + c28) + c30)), .second, .val (.ref b7), .unset]) rfl ?_
    refine XS.aload X11.here hx rfl (hb hby at_278) rfl rfl ?_
    refine XS.aload X11.here hx rfl (hb hby at_280) rfl rfl ?_
    refine st12 _ ?_
    show Steps p.tables e below (T12.setTop (mkF m 285 #[.val (.int u0), .val (.int u1), .val (.int u2), .val (.int u3), .val (.int u4), .val (.int nk0), .val (.int nk), .val (.long lx0), .second, .val (.long ly0), .second, .val (.long lx1), .second, .val (.long ly1), .second, .val (.long lx2), .second, .val (.long ly2), .second, .val (.long lx3), .second, .val (.long ly3), .second, .val (.ref b7), .val (.ref b8), .val (.ref b9), .val (.long c26), .second, .val (.long c28), .second, .val (.long c30), .second, .val (.long c32), .second, .val (.long c34), .second, .val (.long ((c26 + c28) + c30)), .second, .val (.ref b7), .unset] [(.int (1 : Int32))])) _
    refine XS.istore X12.here hx rfl (hb hby at_285) rfl (l' := #[.val (.int u0), .val (.int u1), .val (.int u2), .val (.int u3), .val (.int u4), .val (.int nk0), .val (.int nk), .val (.long lx0), .second, .val (.long ly0), .second, .val (.long lx1), .second, .val (.long ly1), .second, .val (.long lx2), .second, .val (.long ly2), .second, .val (.long lx3), .second, .val (.long ly3), .second, .val (.ref b7), .val (.ref b8), .val (.ref b9), .val (.long c26), .second, .val (.long c28), .second, .val (.long c30), .second, .val (.long c32), .second, .val (.long c34), .second, .val (.long ((c26 + c28) + c30)), .second, .val (.ref b7), .val (.int (1 : Int32))]) rfl ?_
    refine XS.lload X12.here hx rfl (hb hby at_287) rfl ?_
    refine XS.lconst X12.here hx rfl (hb hby at_289) ?_
    refine XS.lcmp X12.here hx rfl (hb hby at_290) rfl ?_
    refine XS.ifNo X12.here hx rfl (hb hby at_291) rfl ((if0 _ _).trans (flt (by rw [ec26, ec28, ec30]; exact hA)).1) ?_
    refine XS.aload X12.here hx rfl (hb hby at_294) rfl rfl ?_
    refine XS.aload X12.here hx rfl (hb hby at_296) rfl rfl ?_
    show Steps p.tables e below (T12.setTop (mkF m 298 #[.val (.int u0), .val (.int u1), .val (.int u2), .val (.int u3), .val (.int u4), .val (.int nk0), .val (.int nk), .val (.long lx0), .second, .val (.long ly0), .second, .val (.long lx1), .second, .val (.long ly1), .second, .val (.long lx2), .second, .val (.long ly2), .second, .val (.long lx3), .second, .val (.long ly3), .second, .val (.ref b7), .val (.ref b8), .val (.ref b9), .val (.long c26), .second, .val (.long c28), .second, .val (.long c30), .second, .val (.long c32), .second, .val (.long c34), .second, .val (.long ((c26 + c28) + c30)), .second, .val (.ref b7), .val (.int (1 : Int32))] [(.ref b7), (.ref b7)])) _
    refine Jvm.RoadKit.acmp (g := (mkF m 298 #[.val (.int u0), .val (.int u1), .val (.int u2), .val (.int u3), .val (.int u4), .val (.int nk0), .val (.int nk), .val (.long lx0), .second, .val (.long ly0), .second, .val (.long lx1), .second, .val (.long ly1), .second, .val (.long lx2), .second, .val (.long ly2), .second, .val (.long lx3), .second, .val (.long ly3), .second, .val (.ref b7), .val (.ref b8), .val (.ref b9), .val (.long c26), .second, .val (.long c28), .second, .val (.long c30), .second, .val (.long c32), .second, .val (.long c34), .second, .val (.long ((c26 + c28) + c30)), .second, .val (.ref b7), .val (.int (1 : Int32))] [(.ref b7), (.ref b7)])) X12 hx rfl rfl rfl (pc0 := 298) (pc' := 301) (same := true) rfl (hb hby at_298) rfl (decide_eq_true rfl) (by decide) (by decide) ?_
    show Steps p.tables e below (T12.setTop (mkF m 301 #[.val (.int u0), .val (.int u1), .val (.int u2), .val (.int u3), .val (.int u4), .val (.int nk0), .val (.int nk), .val (.long lx0), .second, .val (.long ly0), .second, .val (.long lx1), .second, .val (.long ly1), .second, .val (.long lx2), .second, .val (.long ly2), .second, .val (.long lx3), .second, .val (.long ly3), .second, .val (.ref b7), .val (.ref b8), .val (.ref b9), .val (.long c26), .second, .val (.long c28), .second, .val (.long c30), .second, .val (.long c32), .second, .val (.long c34), .second, .val (.long ((c26 + c28) + c30)), .second, .val (.ref b7), .val (.int (1 : Int32))] [])) _
    refine XS.iload X12.here hx rfl (hb hby at_301) rfl ?_
    refine XS.ifNo X12.here hx rfl (hb hby at_303) rfl ((if0 _ _).trans (feq (by decide)).1) ?_
    refine XS.iconst X12.here hx rfl (hb hby at_306) ?_
    refine XS.goto X12.here hx rfl (pc0 := 307) (pc' := 311) rfl (hb hby at_307) (by decide) (by decide) ?_
    show Steps p.tables e below (T12.setTop (mkF m 311 #[.val (.int u0), .val (.int u1), .val (.int u2), .val (.int u3), .val (.int u4), .val (.int nk0), .val (.int nk), .val (.long lx0), .second, .val (.long ly0), .second, .val (.long lx1), .second, .val (.long ly1), .second, .val (.long lx2), .second, .val (.long ly2), .second, .val (.long lx3), .second, .val (.long ly3), .second, .val (.ref b7), .val (.ref b8), .val (.ref b9), .val (.long c26), .second, .val (.long c28), .second, .val (.long c30), .second, .val (.long c32), .second, .val (.long c34), .second, .val (.long ((c26 + c28) + c30)), .second, .val (.ref b7), .val (.int (1 : Int32))] [(.int (1 : Int32))])) _
    exact retN X12 hx (t := .boolean) Bd.returns (by simp) (hb hby at_311) hr
  · show QL3 Z u0 u1 u2 u3 u4 h0 n0 _ T12.heap _
    rw [e12]
    exact ⟨rfl, N12⟩
theorem ef_L3n (m : MethodId) (u0 : Int32) (u1 : Int32) (u2 : Int32) (u3 : Int32) (u4 : Int32) : entryFrame m #[(.int u0), (.int u1), (.int u2), (.int u3), (.int u4)] maxLocals = mkF m 0 #[.val (.int u0), .val (.int u1), .val (.int u2), .val (.int u3), .val (.int u4), .unset, .unset, .unset, .unset, .unset, .unset, .unset, .unset, .unset, .unset, .unset, .unset, .unset, .unset, .unset, .unset, .unset, .unset, .unset, .unset, .unset, .unset, .unset, .unset, .unset, .unset, .unset, .unset, .unset, .unset, .unset, .unset, .unset, .unset, .unset] [] := by first | (simp [entryFrame, mkF, argsToLocals, Value.category, maxLocals]; done) | rfl
def QL3n (Z : State) (u0 : Int32) (u1 : Int32) (u2 : Int32) (u3 : Int32) (u4 : Int32) (h0 : Heap) (n0 : Nat) (v : Option Value) (h : Heap) (L : List Loc) : Prop := v = some (.int (1 : Int32)) ∧ Fr n0 L
set_option maxRecDepth 65536 in
set_option maxHeartbeats 40000000 in
theorem rmL3n (l : Launch) (Z : State) (a0 : Array Value) (hw : ∀ d ∈ tables_1, d.before a0 Z = true) (ws : List Jvm.Cond) (u0 : Int32) (u1 : Int32) (u2 : Int32) (u3 : Int32) (u4 : Int32) (h0 : Heap) (n0 : Nat) (Z0 : n0 ≤ h0.size) (hk : (if (4 : Int32) < (u4 &&& (7 : Int32)) then (4 : Int32) else (u4 &&& (7 : Int32))) = (3 : Int32)) (hA : lcmpW ((((((u0 >>> ((16 : Int32) &&& 31)).toInt64) * ((u1.toInt16.toInt32).toInt64)) - (((u1 >>> ((16 : Int32) &&& 31)).toInt64) * ((u0.toInt16.toInt32).toInt64))) + ((((u1 >>> ((16 : Int32) &&& 31)).toInt64) * ((u2.toInt16.toInt32).toInt64)) - (((u2 >>> ((16 : Int32) &&& 31)).toInt64) * ((u1.toInt16.toInt32).toInt64)))) + ((((u2 >>> ((16 : Int32) &&& 31)).toInt64) * ((u0.toInt16.toInt32).toInt64)) - (((u0 >>> ((16 : Int32) &&& 31)).toInt64) * ((u2.toInt16.toInt32).toInt64)))) (0 : Int64) < 0) :
    MetFree l x (head1 (Jvm.Cond.code x code maxLocals ret :: ws) room_1) (fun a U => a = #[(.int u0), (.int u1), (.int u2), (.int u3), (.int u4)] ∧ Z.Warmed39 U.vm ∧ U.heap = h0) (fun _ _ _ _ _ => True) (fun _ U o U' => ∃ v L, o = .returned v ∧ QL3n Z u0 u1 u2 u3 u4 h0 n0 v U'.heap L ∧ FrameEnd U o U' L room_1.cells room_1.slots) := by
  refine MetFree.of_bodySF (plainFor_of_name pn_com_example_decorum_decorum_graphics_RasterizerClockwisePinLaw) hisR ?_
  intro p e s m args below meth c s₁ Bd hml0 hP hK
  obtain ⟨rfl, hZ, hh⟩ := hP
  have hx := Bd.exec
  have hby := Bd.bytes
  have hml : c.maxLocals = 40 := hml0
  have hown : s.vm.findClass "com/example/decorum/decorum/graphics/RasterizerClockwisePinLaw" = some m.cls := findClass_of_methodNamed Bd.named
  have hnm := (name_of_methodNamed Bd.named Bd.method).1
  have X0 : Stand p l e room_1 s m #[(.int u0), (.int u1), (.int u2), (.int u3), (.int u4)] below meth c s₁ [] 0 0 := Stand.of_body Bd
  have e0 : s₁.heap = h0 := by rw [← hh, Bd.state]; rfl
  have N0 := Fr.nil n0
  have pre0 : ∀ t, Steps p.tables e below (s₁.setTop (mkF m 0 #[.val (.int u0), .val (.int u1), .val (.int u2), .val (.int u3), .val (.int u4), .unset, .unset, .unset, .unset, .unset, .unset, .unset, .unset, .unset, .unset, .unset, .unset, .unset, .unset, .unset, .unset, .unset, .unset, .unset, .unset, .unset, .unset, .unset, .unset, .unset, .unset, .unset, .unset, .unset, .unset, .unset, .unset, .unset, .unset, .unset] [])) t → Steps p.tables e below (s₁.setTop (entryFrame m #[(.int u0), (.int u1), (.int u2), (.int u3), (.int u4)] maxLocals)) t := fun t k => castTop (ef_L3n m u0 u1 u2 u3 u4) k
  obtain ⟨mv1_0, me1_0⟩ : ∃ z : Int32, z = (if (4 : Int32) < (u4 &&& (7 : Int32)) then (4 : Int32) else (u4 &&& (7 : Int32))) := ⟨_, rfl⟩
  have st1 : ∀ target, Steps p.tables e below (s₁.setTop (mkF m 19 #[.val (.int u0), .val (.int u1), .val (.int u2), .val (.int u3), .val (.int u4), .val (.int (u4 &&& (7 : Int32))), .unset, .unset, .unset, .unset, .unset, .unset, .unset, .unset, .unset, .unset, .unset, .unset, .unset, .unset, .unset, .unset, .unset, .unset, .unset, .unset, .unset, .unset, .unset, .unset, .unset, .unset, .unset, .unset, .unset, .unset, .unset, .unset, .unset, .unset] [(.int mv1_0)])) target → Steps p.tables e below (s₁.setTop (mkF m 7 #[.val (.int u0), .val (.int u1), .val (.int u2), .val (.int u3), .val (.int u4), .val (.int (u4 &&& (7 : Int32))), .unset, .unset, .unset, .unset, .unset, .unset, .unset, .unset, .unset, .unset, .unset, .unset, .unset, .unset, .unset, .unset, .unset, .unset, .unset, .unset, .unset, .unset, .unset, .unset, .unset, .unset, .unset, .unset, .unset, .unset, .unset, .unset, .unset, .unset] [])) target := by
    intro target kt
    rw [me1_0] at kt
    by_cases hc10 : (4 : Int32) < (u4 &&& (7 : Int32))
    · simp only [if_pos hc10] at kt
      refine XS.iload X0.here hx rfl (hb hby at_7) rfl ?_
      refine XS.iconst X0.here hx rfl (hb hby at_9) ?_
      refine XS.icmpNo X0.here hx rfl (hb hby at_10) rfl (tlt hc10).2.2.2 ?_
      refine XS.iconst X0.here hx rfl (hb hby at_13) ?_
      refine XS.goto X0.here hx rfl (pc0 := 14) (pc' := 19) rfl (hb hby at_14) (by decide) (by decide) ?_
      exact kt
    · simp only [if_neg hc10] at kt
      refine XS.iload X0.here hx rfl (hb hby at_7) rfl ?_
      refine XS.iconst X0.here hx rfl (hb hby at_9) ?_
      refine XS.icmpYes X0.here hx rfl (pc0 := 10) (pc' := 17) rfl (hb hby at_10) rfl (flt hc10).2.2.2 (by decide) (by decide) ?_
      refine XS.iload X0.here hx rfl (hb hby at_17) rfl ?_
      exact kt
  obtain ⟨lx0, elx0⟩ : ∃ z : Int64, z = ((u0 >>> ((16 : Int32) &&& 31)).toInt64) := ⟨_, rfl⟩
  obtain ⟨ly0, ely0⟩ : ∃ z : Int64, z = ((u0.toInt16.toInt32).toInt64) := ⟨_, rfl⟩
  have st2 : ∀ target, Steps p.tables e below (s₁.setTop (mkF m 33 #[.val (.int u0), .val (.int u1), .val (.int u2), .val (.int u3), .val (.int u4), .val (.int (u4 &&& (7 : Int32))), .val (.int mv1_0), .val (.long lx0), .second, .val (.long ly0), .second, .unset, .unset, .unset, .unset, .unset, .unset, .unset, .unset, .unset, .unset, .unset, .unset, .unset, .unset, .unset, .unset, .unset, .unset, .unset, .unset, .unset, .unset, .unset, .unset, .unset, .unset, .unset, .unset, .unset] [])) target → Steps p.tables e below (s₁.setTop (mkF m 33 #[.val (.int u0), .val (.int u1), .val (.int u2), .val (.int u3), .val (.int u4), .val (.int (u4 &&& (7 : Int32))), .val (.int mv1_0), .val (.long ((u0 >>> ((16 : Int32) &&& 31)).toInt64)), .second, .val (.long ((u0.toInt16.toInt32).toInt64)), .second, .unset, .unset, .unset, .unset, .unset, .unset, .unset, .unset, .unset, .unset, .unset, .unset, .unset, .unset, .unset, .unset, .unset, .unset, .unset, .unset, .unset, .unset, .unset, .unset, .unset, .unset, .unset, .unset, .unset] [])) target := by intro target kt; rw [elx0, ely0] at kt; exact kt
  obtain ⟨lx1, elx1⟩ : ∃ z : Int64, z = ((u1 >>> ((16 : Int32) &&& 31)).toInt64) := ⟨_, rfl⟩
  obtain ⟨ly1, ely1⟩ : ∃ z : Int64, z = ((u1.toInt16.toInt32).toInt64) := ⟨_, rfl⟩
  have st3 : ∀ target, Steps p.tables e below (s₁.setTop (mkF m 45 #[.val (.int u0), .val (.int u1), .val (.int u2), .val (.int u3), .val (.int u4), .val (.int (u4 &&& (7 : Int32))), .val (.int mv1_0), .val (.long lx0), .second, .val (.long ly0), .second, .val (.long lx1), .second, .val (.long ly1), .second, .unset, .unset, .unset, .unset, .unset, .unset, .unset, .unset, .unset, .unset, .unset, .unset, .unset, .unset, .unset, .unset, .unset, .unset, .unset, .unset, .unset, .unset, .unset, .unset, .unset] [])) target → Steps p.tables e below (s₁.setTop (mkF m 45 #[.val (.int u0), .val (.int u1), .val (.int u2), .val (.int u3), .val (.int u4), .val (.int (u4 &&& (7 : Int32))), .val (.int mv1_0), .val (.long lx0), .second, .val (.long ly0), .second, .val (.long ((u1 >>> ((16 : Int32) &&& 31)).toInt64)), .second, .val (.long ((u1.toInt16.toInt32).toInt64)), .second, .unset, .unset, .unset, .unset, .unset, .unset, .unset, .unset, .unset, .unset, .unset, .unset, .unset, .unset, .unset, .unset, .unset, .unset, .unset, .unset, .unset, .unset, .unset, .unset, .unset] [])) target := by intro target kt; rw [elx1, ely1] at kt; exact kt
  obtain ⟨lx2, elx2⟩ : ∃ z : Int64, z = ((u2 >>> ((16 : Int32) &&& 31)).toInt64) := ⟨_, rfl⟩
  obtain ⟨ly2, ely2⟩ : ∃ z : Int64, z = ((u2.toInt16.toInt32).toInt64) := ⟨_, rfl⟩
  have st4 : ∀ target, Steps p.tables e below (s₁.setTop (mkF m 57 #[.val (.int u0), .val (.int u1), .val (.int u2), .val (.int u3), .val (.int u4), .val (.int (u4 &&& (7 : Int32))), .val (.int mv1_0), .val (.long lx0), .second, .val (.long ly0), .second, .val (.long lx1), .second, .val (.long ly1), .second, .val (.long lx2), .second, .val (.long ly2), .second, .unset, .unset, .unset, .unset, .unset, .unset, .unset, .unset, .unset, .unset, .unset, .unset, .unset, .unset, .unset, .unset, .unset, .unset, .unset, .unset, .unset] [])) target → Steps p.tables e below (s₁.setTop (mkF m 57 #[.val (.int u0), .val (.int u1), .val (.int u2), .val (.int u3), .val (.int u4), .val (.int (u4 &&& (7 : Int32))), .val (.int mv1_0), .val (.long lx0), .second, .val (.long ly0), .second, .val (.long lx1), .second, .val (.long ly1), .second, .val (.long ((u2 >>> ((16 : Int32) &&& 31)).toInt64)), .second, .val (.long ((u2.toInt16.toInt32).toInt64)), .second, .unset, .unset, .unset, .unset, .unset, .unset, .unset, .unset, .unset, .unset, .unset, .unset, .unset, .unset, .unset, .unset, .unset, .unset, .unset, .unset, .unset] [])) target := by intro target kt; rw [elx2, ely2] at kt; exact kt
  obtain ⟨lx3, elx3⟩ : ∃ z : Int64, z = ((u3 >>> ((16 : Int32) &&& 31)).toInt64) := ⟨_, rfl⟩
  obtain ⟨ly3, ely3⟩ : ∃ z : Int64, z = ((u3.toInt16.toInt32).toInt64) := ⟨_, rfl⟩
  have st5 : ∀ target, Steps p.tables e below (s₁.setTop (mkF m 69 #[.val (.int u0), .val (.int u1), .val (.int u2), .val (.int u3), .val (.int u4), .val (.int (u4 &&& (7 : Int32))), .val (.int mv1_0), .val (.long lx0), .second, .val (.long ly0), .second, .val (.long lx1), .second, .val (.long ly1), .second, .val (.long lx2), .second, .val (.long ly2), .second, .val (.long lx3), .second, .val (.long ly3), .second, .unset, .unset, .unset, .unset, .unset, .unset, .unset, .unset, .unset, .unset, .unset, .unset, .unset, .unset, .unset, .unset, .unset] [])) target → Steps p.tables e below (s₁.setTop (mkF m 69 #[.val (.int u0), .val (.int u1), .val (.int u2), .val (.int u3), .val (.int u4), .val (.int (u4 &&& (7 : Int32))), .val (.int mv1_0), .val (.long lx0), .second, .val (.long ly0), .second, .val (.long lx1), .second, .val (.long ly1), .second, .val (.long lx2), .second, .val (.long ly2), .second, .val (.long ((u3 >>> ((16 : Int32) &&& 31)).toInt64)), .second, .val (.long ((u3.toInt16.toInt32).toInt64)), .second, .unset, .unset, .unset, .unset, .unset, .unset, .unset, .unset, .unset, .unset, .unset, .unset, .unset, .unset, .unset, .unset, .unset] [])) target := by intro target kt; rw [elx3, ely3] at kt; exact kt
  obtain ⟨nk0, enk0⟩ : ∃ z : Int32, z = (u4 &&& (7 : Int32)) := ⟨_, rfl⟩
  obtain ⟨nk, enk⟩ : ∃ z : Int32, z = mv1_0 := ⟨_, rfl⟩
  have st6 : ∀ target, Steps p.tables e below (s₁.setTop (mkF m 69 #[.val (.int u0), .val (.int u1), .val (.int u2), .val (.int u3), .val (.int u4), .val (.int nk0), .val (.int nk), .val (.long lx0), .second, .val (.long ly0), .second, .val (.long lx1), .second, .val (.long ly1), .second, .val (.long lx2), .second, .val (.long ly2), .second, .val (.long lx3), .second, .val (.long ly3), .second, .unset, .unset, .unset, .unset, .unset, .unset, .unset, .unset, .unset, .unset, .unset, .unset, .unset, .unset, .unset, .unset, .unset] [])) target → Steps p.tables e below (s₁.setTop (mkF m 69 #[.val (.int u0), .val (.int u1), .val (.int u2), .val (.int u3), .val (.int u4), .val (.int (u4 &&& (7 : Int32))), .val (.int mv1_0), .val (.long lx0), .second, .val (.long ly0), .second, .val (.long lx1), .second, .val (.long ly1), .second, .val (.long lx2), .second, .val (.long ly2), .second, .val (.long lx3), .second, .val (.long ly3), .second, .unset, .unset, .unset, .unset, .unset, .unset, .unset, .unset, .unset, .unset, .unset, .unset, .unset, .unset, .unset, .unset, .unset] [])) target := by intro target kt; rw [enk, enk0] at kt; exact kt
  have hnk : nk = (3 : Int32) := enk.trans (me1_0.trans hk)
  obtain ⟨xda0, Lx0⟩ : ∃ i, LI i 32768 lx0 := ⟨_, elx0 ▸ LI.shr u0⟩
  obtain ⟨da0, eda0⟩ : ∃ z, z = FP.l2d lx0 := ⟨_, rfl⟩
  have Dda0 := LI.d Lx0 eda0 (by decide)
  obtain ⟨xdq0, Ly0⟩ : ∃ i, LI i 32768 ly0 := ⟨_, ely0 ▸ LI.i2s u0⟩
  obtain ⟨dq0, edq0⟩ : ∃ z, z = FP.l2d ly0 := ⟨_, rfl⟩
  have Ddq0 := LI.d Ly0 edq0 (by decide)
  obtain ⟨xda1, Lx1⟩ : ∃ i, LI i 32768 lx1 := ⟨_, elx1 ▸ LI.shr u1⟩
  obtain ⟨da1, eda1⟩ : ∃ z, z = FP.l2d lx1 := ⟨_, rfl⟩
  have Dda1 := LI.d Lx1 eda1 (by decide)
  obtain ⟨xdq1, Ly1⟩ : ∃ i, LI i 32768 ly1 := ⟨_, ely1 ▸ LI.i2s u1⟩
  obtain ⟨dq1, edq1⟩ : ∃ z, z = FP.l2d ly1 := ⟨_, rfl⟩
  have Ddq1 := LI.d Ly1 edq1 (by decide)
  obtain ⟨xda2, Lx2⟩ : ∃ i, LI i 32768 lx2 := ⟨_, elx2 ▸ LI.shr u2⟩
  obtain ⟨da2, eda2⟩ : ∃ z, z = FP.l2d lx2 := ⟨_, rfl⟩
  have Dda2 := LI.d Lx2 eda2 (by decide)
  obtain ⟨xdq2, Ly2⟩ : ∃ i, LI i 32768 ly2 := ⟨_, ely2 ▸ LI.i2s u2⟩
  obtain ⟨dq2, edq2⟩ : ∃ z, z = FP.l2d ly2 := ⟨_, rfl⟩
  have Ddq2 := LI.d Ly2 edq2 (by decide)
  obtain ⟨xda3, Lx3⟩ : ∃ i, LI i 32768 lx3 := ⟨_, elx3 ▸ LI.shr u3⟩
  obtain ⟨da3, eda3⟩ : ∃ z, z = FP.l2d lx3 := ⟨_, rfl⟩
  have Dda3 := LI.d Lx3 eda3 (by decide)
  obtain ⟨xdq3, Ly3⟩ : ∃ i, LI i 32768 ly3 := ⟨_, ely3 ▸ LI.i2s u3⟩
  obtain ⟨dq3, edq3⟩ : ∃ z, z = FP.l2d ly3 := ⟨_, rfl⟩
  have Ddq3 := LI.d Ly3 edq3 (by decide)
  replace hA : lcmpW ((((lx0 * ly1) - (lx1 * ly0)) + ((lx1 * ly2) - (lx2 * ly1))) + ((lx2 * ly0) - (lx0 * ly2))) (0 : Int64) < 0 := by rw [elx0, elx1, elx2, ely0, ely1, ely2]; exact hA
  have hL := LI.neg (LI.add (LI.add (LI.sub (LI.mul Lx0 Ly1 (by decide)) (LI.mul Lx1 Ly0 (by decide)) (by decide)) (LI.sub (LI.mul Lx1 Ly2 (by decide)) (LI.mul Lx2 Ly1 (by decide)) (by decide)) (by decide)) (LI.sub (LI.mul Lx2 Ly0 (by decide)) (LI.mul Lx0 Ly2 (by decide)) (by decide)) (by decide))
  have hB : ((((0 : Int) + ((xda0 * xdq1) - (xda1 * xdq0))) + ((xda1 * xdq2) - (xda2 * xdq1))) + ((xda2 * xdq0) - (xda0 * xdq2))) < 0 := by have q := hL.mp hA; omega
  obtain ⟨_, _, ⟨T7, L7, k7, n7⟩, -, X7, ⟨Lc7, hQ7, l7, y7, z7⟩, st7⟩ := Jvm.LawKit.callS X0 hx (y := (⟨"com/example/decorum/decorum/graphics/RasterizerClockwisePinLaw", "build", "(IJJJJJJJJ)[D"⟩ : MethodName)) hown (mvT hZ (hw _ (List.mem_of_getElem? (i := 0) rfl))) (mvT hZ (hw _ (List.mem_of_getElem? (i := 1) rfl))) (mvT hZ (hw _ (List.mem_of_getElem? (i := 2) rfl))) (mvT hZ (hw _ (List.mem_of_getElem? (i := 3) rfl))) (by decide) (backOf (W := 0) (rmB3 l Z a0 hw [] nk lx0 ly0 lx1 ly1 lx2 ly2 lx3 ly3 da0 dq0 da1 dq1 da2 dq2 h0 n0 Z0 hnk eda0 edq0 eda1 edq1 eda2 edq2) hZ (hw _ (List.mem_of_getElem? (i := 3) rfl)) (hw _ (List.mem_of_getElem? (i := 2) rfl)) (by decide) (by decide)) (g := (mkF m 87 #[.val (.int u0), .val (.int u1), .val (.int u2), .val (.int u3), .val (.int u4), .val (.int nk0), .val (.int nk), .val (.long lx0), .second, .val (.long ly0), .second, .val (.long lx1), .second, .val (.long ly1), .second, .val (.long lx2), .second, .val (.long ly2), .second, .val (.long lx3), .second, .val (.long ly3), .second, .unset, .unset, .unset, .unset, .unset, .unset, .unset, .unset, .unset, .unset, .unset, .unset, .unset, .unset, .unset, .unset, .unset] [(.long ly3), (.long lx3), (.long ly2), (.long lx2), (.long ly1), (.long lx1), (.long ly0), (.long lx0), (.int nk)])) rfl (by rw [hml]; rfl) (argsL := [(.int nk), (.long lx0), (.long ly0), (.long lx1), (.long ly1), (.long lx2), (.long ly2), (.long lx3), (.long ly3)]) (rest := []) (lenOf pd_0 rfl) rfl (by show 2 * 0 + _ ≤ _; exact Nat.le_of_eq rfl) (hb hby at_87) (fun _ _ => ⟨rfl, e0, (by decide : 0 + 1 ≤ _), (by decide : 0 + 6 ≤ _)⟩)
  dsimp only [Pt.U, Pt.locs, Pt.cells, Pt.slots] at X7 l7 y7 z7 st7 hQ7
  replace y7 : k7 = 1 := y7
  replace z7 : n7 = 6 := z7
  rw [y7, z7] at X7
  obtain ⟨hv7, N7q, K7, kk7, V7⟩ := hQ7
  obtain ⟨b7, g7⟩ : ∃ z, z = h0.size := ⟨_, rfl⟩
  rw [← g7] at hv7 V7
  subst hv7
  have g_b7 : n0 ≤ b7 := Nat.le_trans Z0 (Nat.le_of_eq g7.symm)
  have sz_b7 : h0.size ≤ b7 := Nat.le_trans (Keep.refl h0 []).1 (Nat.le_of_eq g7.symm)
  have N7 : Fr n0 L7 := l7 ▸ Fr.app N0 N7q
  have Z7 : n0 ≤ T7.heap.size := Nat.le_trans Z0 K7.1
  have KK7 := (Keep.refl h0 []).trans K7 all0
  obtain ⟨_, _, ⟨T8, L8, k8, n8⟩, -, X8, ⟨Lc8, hQ8, l8, y8, z8⟩, st8⟩ := Jvm.LawKit.callS X7 hx (y := (⟨"com/example/decorum/decorum/graphics/RasterizerClockwisePinLaw", "build", "(IJJJJJJJJ)[D"⟩ : MethodName)) hown (mvT hZ (hw _ (List.mem_of_getElem? (i := 0) rfl))) (mvT hZ (hw _ (List.mem_of_getElem? (i := 1) rfl))) (mvT hZ (hw _ (List.mem_of_getElem? (i := 2) rfl))) (mvT hZ (hw _ (List.mem_of_getElem? (i := 3) rfl))) (by decide) (backOf (W := 0) (rmB3 l Z a0 hw [] nk lx0 ly0 lx1 ly1 lx2 ly2 lx3 ly3 da0 dq0 da1 dq1 da2 dq2 T7.heap n0 Z7 hnk eda0 edq0 eda1 edq1 eda2 edq2) hZ (hw _ (List.mem_of_getElem? (i := 3) rfl)) (hw _ (List.mem_of_getElem? (i := 2) rfl)) (by decide) (by decide)) (g := (mkF m 110 #[.val (.int u0), .val (.int u1), .val (.int u2), .val (.int u3), .val (.int u4), .val (.int nk0), .val (.int nk), .val (.long lx0), .second, .val (.long ly0), .second, .val (.long lx1), .second, .val (.long ly1), .second, .val (.long lx2), .second, .val (.long ly2), .second, .val (.long lx3), .second, .val (.long ly3), .second, .val (.ref b7), .unset, .unset, .unset, .unset, .unset, .unset, .unset, .unset, .unset, .unset, .unset, .unset, .unset, .unset, .unset, .unset] [(.long ly3), (.long lx3), (.long ly2), (.long lx2), (.long ly1), (.long lx1), (.long ly0), (.long lx0), (.int nk)])) rfl (by rw [hml]; rfl) (argsL := [(.int nk), (.long lx0), (.long ly0), (.long lx1), (.long ly1), (.long lx2), (.long ly2), (.long lx3), (.long ly3)]) (rest := []) (lenOf pd_0 rfl) rfl (by show 2 * 0 + _ ≤ _; exact Nat.le_of_eq rfl) (hb hby at_110) (fun _ _ => ⟨rfl, rfl, (by decide : 1 + 1 ≤ _), (by decide : 6 + 6 ≤ _)⟩)
  dsimp only [Pt.U, Pt.locs, Pt.cells, Pt.slots] at X8 l8 y8 z8 st8 hQ8
  replace y8 : k8 = 2 := y8
  replace z8 : n8 = 12 := z8
  rw [y8, z8] at X8
  obtain ⟨hv8, N8q, K8, kk8, V8⟩ := hQ8
  obtain ⟨b8, g8⟩ : ∃ z, z = T7.heap.size := ⟨_, rfl⟩
  rw [← g8] at hv8 V8
  subst hv8
  have g_b8 : n0 ≤ b8 := Nat.le_trans Z7 (Nat.le_of_eq g8.symm)
  have sz_b8 : h0.size ≤ b8 := Nat.le_trans KK7.1 (Nat.le_of_eq g8.symm)
  have N8 : Fr n0 L8 := l8 ▸ Fr.app N7 N8q
  have Z8 : n0 ≤ T8.heap.size := Nat.le_trans Z7 K8.1
  have KK8 := KK7.trans K8 all0
  obtain ⟨_, _, ⟨T9, L9, k9, n9⟩, -, X9, ⟨Lc9, hQ9, l9, y9, z9⟩, st9⟩ := Jvm.LawKit.callS X8 hx (y := (⟨"com/example/decorum/decorum/graphics/RasterizerClockwisePinLaw", "build", "(IJJJJJJJJ)[D"⟩ : MethodName)) hown (mvT hZ (hw _ (List.mem_of_getElem? (i := 0) rfl))) (mvT hZ (hw _ (List.mem_of_getElem? (i := 1) rfl))) (mvT hZ (hw _ (List.mem_of_getElem? (i := 2) rfl))) (mvT hZ (hw _ (List.mem_of_getElem? (i := 3) rfl))) (by decide) (backOf (W := 0) (rmB3 l Z a0 hw [] nk lx2 ly2 lx1 ly1 lx0 ly0 (0 : Int64) (0 : Int64) da2 dq2 da1 dq1 da0 dq0 T8.heap n0 Z8 hnk eda2 edq2 eda1 edq1 eda0 edq0) hZ (hw _ (List.mem_of_getElem? (i := 3) rfl)) (hw _ (List.mem_of_getElem? (i := 2) rfl)) (by decide) (by decide)) (g := (mkF m 160 #[.val (.int u0), .val (.int u1), .val (.int u2), .val (.int u3), .val (.int u4), .val (.int nk0), .val (.int nk), .val (.long lx0), .second, .val (.long ly0), .second, .val (.long lx1), .second, .val (.long ly1), .second, .val (.long lx2), .second, .val (.long ly2), .second, .val (.long lx3), .second, .val (.long ly3), .second, .val (.ref b7), .val (.ref b8), .unset, .unset, .unset, .unset, .unset, .unset, .unset, .unset, .unset, .unset, .unset, .unset, .unset, .unset, .unset] [(.long (0 : Int64)), (.long (0 : Int64)), (.long ly0), (.long lx0), (.long ly1), (.long lx1), (.long ly2), (.long lx2), (.int nk)])) rfl (by rw [hml]; rfl) (argsL := [(.int nk), (.long lx2), (.long ly2), (.long lx1), (.long ly1), (.long lx0), (.long ly0), (.long (0 : Int64)), (.long (0 : Int64))]) (rest := []) (lenOf pd_0 rfl) rfl (by show 2 * 0 + _ ≤ _; exact Nat.le_of_eq rfl) (hb hby at_160) (fun _ _ => ⟨rfl, rfl, (by decide : 2 + 1 ≤ _), (by decide : 12 + 6 ≤ _)⟩)
  dsimp only [Pt.U, Pt.locs, Pt.cells, Pt.slots] at X9 l9 y9 z9 st9 hQ9
  replace y9 : k9 = 3 := y9
  replace z9 : n9 = 18 := z9
  rw [y9, z9] at X9
  obtain ⟨hv9, N9q, K9, kk9, V9⟩ := hQ9
  obtain ⟨b9, g9⟩ : ∃ z, z = T8.heap.size := ⟨_, rfl⟩
  rw [← g9] at hv9 V9
  subst hv9
  have g_b9 : n0 ≤ b9 := Nat.le_trans Z8 (Nat.le_of_eq g9.symm)
  have sz_b9 : h0.size ≤ b9 := Nat.le_trans KK8.1 (Nat.le_of_eq g9.symm)
  have N9 : Fr n0 L9 := l9 ▸ Fr.app N8 N9q
  have Z9 : n0 ≤ T9.heap.size := Nat.le_trans Z8 K9.1
  have KK9 := KK8.trans K9 all0
  obtain ⟨c26, ec26⟩ : ∃ z : Int64, z = ((lx0 * ly1) - (lx1 * ly0)) := ⟨_, rfl⟩
  obtain ⟨c28, ec28⟩ : ∃ z : Int64, z = ((lx1 * ly2) - (lx2 * ly1)) := ⟨_, rfl⟩
  obtain ⟨c30, ec30⟩ : ∃ z : Int64, z = ((lx2 * ly0) - (lx0 * ly2)) := ⟨_, rfl⟩
  obtain ⟨c32, ec32⟩ : ∃ z : Int64, z = ((lx2 * ly3) - (lx3 * ly2)) := ⟨_, rfl⟩
  obtain ⟨c34, ec34⟩ : ∃ z : Int64, z = ((lx3 * ly0) - (lx0 * ly3)) := ⟨_, rfl⟩
  have st10 : ∀ target, Steps p.tables e below (T9.setTop (mkF m 230 #[.val (.int u0), .val (.int u1), .val (.int u2), .val (.int u3), .val (.int u4), .val (.int nk0), .val (.int nk), .val (.long lx0), .second, .val (.long ly0), .second, .val (.long lx1), .second, .val (.long ly1), .second, .val (.long lx2), .second, .val (.long ly2), .second, .val (.long lx3), .second, .val (.long ly3), .second, .val (.ref b7), .val (.ref b8), .val (.ref b9), .val (.long c26), .second, .val (.long c28), .second, .val (.long c30), .second, .val (.long c32), .second, .val (.long c34), .second, .unset, .unset, .unset, .unset] [])) target → Steps p.tables e below (T9.setTop (mkF m 230 #[.val (.int u0), .val (.int u1), .val (.int u2), .val (.int u3), .val (.int u4), .val (.int nk0), .val (.int nk), .val (.long lx0), .second, .val (.long ly0), .second, .val (.long lx1), .second, .val (.long ly1), .second, .val (.long lx2), .second, .val (.long ly2), .second, .val (.long lx3), .second, .val (.long ly3), .second, .val (.ref b7), .val (.ref b8), .val (.ref b9), .val (.long ((lx0 * ly1) - (lx1 * ly0))), .second, .val (.long ((lx1 * ly2) - (lx2 * ly1))), .second, .val (.long ((lx2 * ly0) - (lx0 * ly2))), .second, .val (.long ((lx2 * ly3) - (lx3 * ly2))), .second, .val (.long ((lx3 * ly0) - (lx0 * ly3))), .second, .unset, .unset, .unset, .unset] [])) target := by intro target kt; rw [ec26, ec28, ec30, ec32, ec34] at kt; exact kt
  obtain ⟨_, _, ⟨T11, L11, k11, n11⟩, -, X11, ⟨Lc11, hQ11, l11, y11, z11⟩, st11⟩ := Jvm.LawKit.callS X9 hx (y := (⟨"com/example/decorum/decorum/graphics/Rasterizer", "clockwise", "([D)[D"⟩ : MethodName)) hown (mvT hZ (hw _ (List.mem_of_getElem? (i := 5) rfl))) (mvT hZ (hw _ (List.mem_of_getElem? (i := 6) rfl))) (mvT hZ (hw _ (List.mem_of_getElem? (i := 7) rfl))) (mvT hZ (hw _ (List.mem_of_getElem? (i := 8) rfl))) (by decide) (backOf (W := 0) (rmC3n l Z a0 hw [] b7 kk7 da0 dq0 da1 dq1 da2 dq2 xda0 xdq0 xda1 xdq1 xda2 xdq2 T9.heap n0 Z9 ((V7.keep K8 nin0).keep K9 nin0) Dda0 Ddq0 Dda1 Ddq1 Dda2 Ddq2 hB) hZ (hw _ (List.mem_of_getElem? (i := 8) rfl)) (hw _ (List.mem_of_getElem? (i := 7) rfl)) (by decide) (by decide)) (g := (mkF m 273 #[.val (.int u0), .val (.int u1), .val (.int u2), .val (.int u3), .val (.int u4), .val (.int nk0), .val (.int nk), .val (.long lx0), .second, .val (.long ly0), .second, .val (.long lx1), .second, .val (.long ly1), .second, .val (.long lx2), .second, .val (.long ly2), .second, .val (.long lx3), .second, .val (.long ly3), .second, .val (.ref b7), .val (.ref b8), .val (.ref b9), .val (.long c26), .second, .val (.long c28), .second, .val (.long c30), .second, .val (.long c32), .second, .val (.long c34), .second, .val (.long ((c26 + c28) + c30)), .second, .unset, .unset] [(.ref b7)])) rfl (by rw [hml]; rfl) (argsL := [(.ref b7)]) (rest := []) (lenOf pd_1 rfl) rfl (by show 2 * 0 + _ ≤ _; exact Nat.le_of_eq rfl) (hb hby at_273) (fun _ _ => ⟨rfl, rfl, (by decide : 3 + 1 ≤ _), (by decide : 18 + 6 ≤ _)⟩)
  dsimp only [Pt.U, Pt.locs, Pt.cells, Pt.slots] at X11 l11 y11 z11 st11 hQ11
  replace y11 : k11 = 4 := y11
  replace z11 : n11 = 24 := z11
  rw [y11, z11] at X11
  obtain ⟨hv11, N11q, K11, kk11, V11⟩ := hQ11
  obtain ⟨b11, g11⟩ : ∃ z, z = T9.heap.size := ⟨_, rfl⟩
  rw [← g11] at hv11 V11
  subst hv11
  have g_b11 : n0 ≤ b11 := Nat.le_trans Z9 (Nat.le_of_eq g11.symm)
  have sz_b11 : h0.size ≤ b11 := Nat.le_trans KK9.1 (Nat.le_of_eq g11.symm)
  have N11 : Fr n0 L11 := l11 ▸ Fr.app N9 N11q
  have Z11 : n0 ≤ T11.heap.size := Nat.le_trans Z9 K11.1
  have KK11 := KK9.trans K11 all0
  obtain ⟨_, _, ⟨T12, L12, k12, n12⟩, -, X12, ⟨Lc12, hQ12, l12, y12, z12⟩, st12⟩ := Jvm.LawKit.callS X11 hx (y := (⟨"com/example/decorum/decorum/graphics/RasterizerClockwisePinLaw", "same", "([D[D)Z"⟩ : MethodName)) hown (mvT hZ (hw _ (List.mem_of_getElem? (i := 9) rfl))) (mvT hZ (hw _ (List.mem_of_getElem? (i := 10) rfl))) (mvT hZ (hw _ (List.mem_of_getElem? (i := 2) rfl))) (mvT hZ (hw _ (List.mem_of_getElem? (i := 11) rfl))) (by decide) (backOf (W := 0) (rmS3 l Z a0 hw [] b7 b8 kk7 kk8 da0 dq0 da1 dq1 da2 dq2 T11.heap n0 Z11 (((V7.keep K8 nin0).keep K9 nin0).keep K11 nin0) ((V8.keep K9 nin0).keep K11 nin0) Dda0.nn Ddq0.nn Dda1.nn Ddq1.nn Dda2.nn Ddq2.nn) hZ (hw _ (List.mem_of_getElem? (i := 11) rfl)) (hw _ (List.mem_of_getElem? (i := 2) rfl)) (by decide) (by decide)) (g := (mkF m 282 #[.val (.int u0), .val (.int u1), .val (.int u2), .val (.int u3), .val (.int u4), .val (.int nk0), .val (.int nk), .val (.long lx0), .second, .val (.long ly0), .second, .val (.long lx1), .second, .val (.long ly1), .second, .val (.long lx2), .second, .val (.long ly2), .second, .val (.long lx3), .second, .val (.long ly3), .second, .val (.ref b7), .val (.ref b8), .val (.ref b9), .val (.long c26), .second, .val (.long c28), .second, .val (.long c30), .second, .val (.long c32), .second, .val (.long c34), .second, .val (.long ((c26 + c28) + c30)), .second, .val (.ref b11), .unset] [(.ref b8), (.ref b7)])) rfl (by rw [hml]; rfl) (argsL := [(.ref b7), (.ref b8)]) (rest := []) (lenOf pd_2 rfl) rfl (by show 2 * 0 + _ ≤ _; exact Nat.le_of_eq rfl) (hb hby at_282) (fun _ _ => ⟨rfl, rfl, (by decide : 4 + 0 ≤ _), (by decide : 24 + 0 ≤ _)⟩)
  dsimp only [Pt.U, Pt.locs, Pt.cells, Pt.slots] at X12 l12 y12 z12 st12 hQ12
  replace y12 : k12 = 4 := y12
  replace z12 : n12 = 24 := z12
  rw [y12, z12] at X12
  obtain ⟨rfl, N12q, e12⟩ := hQ12
  have N12 : Fr n0 L12 := l12 ▸ Fr.app N11 N12q
  obtain ⟨_, _, ⟨T13, L13, k13, n13⟩, -, X13, ⟨Lc13, hQ13, l13, y13, z13⟩, st13⟩ := Jvm.LawKit.callS X12 hx (y := (⟨"com/example/decorum/decorum/graphics/RasterizerClockwisePinLaw", "same", "([D[D)Z"⟩ : MethodName)) hown (mvT hZ (hw _ (List.mem_of_getElem? (i := 9) rfl))) (mvT hZ (hw _ (List.mem_of_getElem? (i := 10) rfl))) (mvT hZ (hw _ (List.mem_of_getElem? (i := 2) rfl))) (mvT hZ (hw _ (List.mem_of_getElem? (i := 11) rfl))) (by decide) (backOf (W := 0) (rmS3 l Z a0 hw [] b11 b9 kk11 kk9 da2 dq2 da1 dq1 da0 dq0 T11.heap n0 Z11 V11 (V9.keep K11 nin0) Dda2.nn Ddq2.nn Dda1.nn Ddq1.nn Dda0.nn Ddq0.nn) hZ (hw _ (List.mem_of_getElem? (i := 11) rfl)) (hw _ (List.mem_of_getElem? (i := 2) rfl)) (by decide) (by decide)) (g := (mkF m 328 #[.val (.int u0), .val (.int u1), .val (.int u2), .val (.int u3), .val (.int u4), .val (.int nk0), .val (.int nk), .val (.long lx0), .second, .val (.long ly0), .second, .val (.long lx1), .second, .val (.long ly1), .second, .val (.long lx2), .second, .val (.long ly2), .second, .val (.long lx3), .second, .val (.long ly3), .second, .val (.ref b7), .val (.ref b8), .val (.ref b9), .val (.long c26), .second, .val (.long c28), .second, .val (.long c30), .second, .val (.long c32), .second, .val (.long c34), .second, .val (.long ((c26 + c28) + c30)), .second, .val (.ref b11), .val (.int (1 : Int32))] [(.ref b9), (.ref b11)])) rfl (by rw [hml]; rfl) (argsL := [(.ref b11), (.ref b9)]) (rest := []) (lenOf pd_2 rfl) rfl (by show 2 * 0 + _ ≤ _; exact Nat.le_of_eq rfl) (hb hby at_328) (fun _ _ => ⟨rfl, e12, (by decide : 4 + 0 ≤ _), (by decide : 24 + 0 ≤ _)⟩)
  dsimp only [Pt.U, Pt.locs, Pt.cells, Pt.slots] at X13 l13 y13 z13 st13 hQ13
  replace y13 : k13 = 4 := y13
  replace z13 : n13 = 24 := z13
  rw [y13, z13] at X13
  obtain ⟨rfl, N13q, e13⟩ := hQ13
  have N13 : Fr n0 L13 := l13 ▸ Fr.app N12 N13q
  obtain ⟨fs, hr, hrun, hended, hW, hsame⟩ := X13.leave (v := some (.int (1 : Int32))) (fun h => by rw [Bd.returns] at h; cases h)
  refine ⟨_, _, pre0 _ ?_, hrun, hended, _, _, rfl, ?_, ⟨_, rfl⟩, hW, hsame.mono (by decide) (by decide)⟩
  · show Steps p.tables e below (s₁.setTop (mkF m 0 #[.val (.int u0), .val (.int u1), .val (.int u2), .val (.int u3), .val (.int u4), .unset, .unset, .unset, .unset, .unset, .unset, .unset, .unset, .unset, .unset, .unset, .unset, .unset, .unset, .unset, .unset, .unset, .unset, .unset, .unset, .unset, .unset, .unset, .unset, .unset, .unset, .unset, .unset, .unset, .unset, .unset, .unset, .unset, .unset, .unset] [])) _
    refine XS.iload X0.here hx rfl (hb hby at_0) rfl ?_
    refine XS.bipush X0.here hx rfl (hb hby at_2) ?_
    show Steps p.tables e below (s₁.setTop (mkF m 4 #[.val (.int u0), .val (.int u1), .val (.int u2), .val (.int u3), .val (.int u4), .unset, .unset, .unset, .unset, .unset, .unset, .unset, .unset, .unset, .unset, .unset, .unset, .unset, .unset, .unset, .unset, .unset, .unset, .unset, .unset, .unset, .unset, .unset, .unset, .unset, .unset, .unset, .unset, .unset, .unset, .unset, .unset, .unset, .unset, .unset] [(.int (7 : Int32)), (.int u4)])) _
    refine XS.iand X0.here hx rfl (hb hby at_4) rfl ?_
    show Steps p.tables e below (s₁.setTop (mkF m 5 #[.val (.int u0), .val (.int u1), .val (.int u2), .val (.int u3), .val (.int u4), .unset, .unset, .unset, .unset, .unset, .unset, .unset, .unset, .unset, .unset, .unset, .unset, .unset, .unset, .unset, .unset, .unset, .unset, .unset, .unset, .unset, .unset, .unset, .unset, .unset, .unset, .unset, .unset, .unset, .unset, .unset, .unset, .unset, .unset, .unset] [(.int (u4 &&& (7 : Int32)))])) _
    refine XS.istore X0.here hx rfl (hb hby at_5) rfl (l' := #[.val (.int u0), .val (.int u1), .val (.int u2), .val (.int u3), .val (.int u4), .val (.int (u4 &&& (7 : Int32))), .unset, .unset, .unset, .unset, .unset, .unset, .unset, .unset, .unset, .unset, .unset, .unset, .unset, .unset, .unset, .unset, .unset, .unset, .unset, .unset, .unset, .unset, .unset, .unset, .unset, .unset, .unset, .unset, .unset, .unset, .unset, .unset, .unset, .unset]) rfl ?_
    refine st1 _ ?_
    refine XS.istore X0.here hx rfl (hb hby at_19) rfl (l' := #[.val (.int u0), .val (.int u1), .val (.int u2), .val (.int u3), .val (.int u4), .val (.int (u4 &&& (7 : Int32))), .val (.int mv1_0), .unset, .unset, .unset, .unset, .unset, .unset, .unset, .unset, .unset, .unset, .unset, .unset, .unset, .unset, .unset, .unset, .unset, .unset, .unset, .unset, .unset, .unset, .unset, .unset, .unset, .unset, .unset, .unset, .unset, .unset, .unset, .unset, .unset]) rfl ?_
    refine XS.iloadN X0.here hx rfl (hb hby at_21) rfl ?_
    refine XS.bipush X0.here hx rfl (hb hby at_22) ?_
    refine XS.ishr X0.here hx rfl (hb hby at_24) rfl ?_
    refine XS.i2l X0.here hx rfl (hb hby at_25) rfl ?_
    refine XS.lstore X0.here hx rfl (hb hby at_26) rfl (l' := #[.val (.int u0), .val (.int u1), .val (.int u2), .val (.int u3), .val (.int u4), .val (.int (u4 &&& (7 : Int32))), .val (.int mv1_0), .val (.long ((u0 >>> ((16 : Int32) &&& 31)).toInt64)), .second, .unset, .unset, .unset, .unset, .unset, .unset, .unset, .unset, .unset, .unset, .unset, .unset, .unset, .unset, .unset, .unset, .unset, .unset, .unset, .unset, .unset, .unset, .unset, .unset, .unset, .unset, .unset, .unset, .unset, .unset, .unset]) rfl ?_
    refine XS.iloadN X0.here hx rfl (hb hby at_28) rfl ?_
    refine XS.i2s X0.here hx rfl (hb hby at_29) rfl ?_
    refine XS.i2l X0.here hx rfl (hb hby at_30) rfl ?_
    refine XS.lstore X0.here hx rfl (hb hby at_31) rfl (l' := #[.val (.int u0), .val (.int u1), .val (.int u2), .val (.int u3), .val (.int u4), .val (.int (u4 &&& (7 : Int32))), .val (.int mv1_0), .val (.long ((u0 >>> ((16 : Int32) &&& 31)).toInt64)), .second, .val (.long ((u0.toInt16.toInt32).toInt64)), .second, .unset, .unset, .unset, .unset, .unset, .unset, .unset, .unset, .unset, .unset, .unset, .unset, .unset, .unset, .unset, .unset, .unset, .unset, .unset, .unset, .unset, .unset, .unset, .unset, .unset, .unset, .unset, .unset, .unset]) rfl ?_
    refine st2 _ ?_
    show Steps p.tables e below (s₁.setTop (mkF m 33 #[.val (.int u0), .val (.int u1), .val (.int u2), .val (.int u3), .val (.int u4), .val (.int (u4 &&& (7 : Int32))), .val (.int mv1_0), .val (.long lx0), .second, .val (.long ly0), .second, .unset, .unset, .unset, .unset, .unset, .unset, .unset, .unset, .unset, .unset, .unset, .unset, .unset, .unset, .unset, .unset, .unset, .unset, .unset, .unset, .unset, .unset, .unset, .unset, .unset, .unset, .unset, .unset, .unset] [])) _
    refine XS.iloadN X0.here hx rfl (hb hby at_33) rfl ?_
    refine XS.bipush X0.here hx rfl (hb hby at_34) ?_
    refine XS.ishr X0.here hx rfl (hb hby at_36) rfl ?_
    refine XS.i2l X0.here hx rfl (hb hby at_37) rfl ?_
    refine XS.lstore X0.here hx rfl (hb hby at_38) rfl (l' := #[.val (.int u0), .val (.int u1), .val (.int u2), .val (.int u3), .val (.int u4), .val (.int (u4 &&& (7 : Int32))), .val (.int mv1_0), .val (.long lx0), .second, .val (.long ly0), .second, .val (.long ((u1 >>> ((16 : Int32) &&& 31)).toInt64)), .second, .unset, .unset, .unset, .unset, .unset, .unset, .unset, .unset, .unset, .unset, .unset, .unset, .unset, .unset, .unset, .unset, .unset, .unset, .unset, .unset, .unset, .unset, .unset, .unset, .unset, .unset, .unset]) rfl ?_
    refine XS.iloadN X0.here hx rfl (hb hby at_40) rfl ?_
    refine XS.i2s X0.here hx rfl (hb hby at_41) rfl ?_
    refine XS.i2l X0.here hx rfl (hb hby at_42) rfl ?_
    refine XS.lstore X0.here hx rfl (hb hby at_43) rfl (l' := #[.val (.int u0), .val (.int u1), .val (.int u2), .val (.int u3), .val (.int u4), .val (.int (u4 &&& (7 : Int32))), .val (.int mv1_0), .val (.long lx0), .second, .val (.long ly0), .second, .val (.long ((u1 >>> ((16 : Int32) &&& 31)).toInt64)), .second, .val (.long ((u1.toInt16.toInt32).toInt64)), .second, .unset, .unset, .unset, .unset, .unset, .unset, .unset, .unset, .unset, .unset, .unset, .unset, .unset, .unset, .unset, .unset, .unset, .unset, .unset, .unset, .unset, .unset, .unset, .unset, .unset]) rfl ?_
    refine st3 _ ?_
    show Steps p.tables e below (s₁.setTop (mkF m 45 #[.val (.int u0), .val (.int u1), .val (.int u2), .val (.int u3), .val (.int u4), .val (.int (u4 &&& (7 : Int32))), .val (.int mv1_0), .val (.long lx0), .second, .val (.long ly0), .second, .val (.long lx1), .second, .val (.long ly1), .second, .unset, .unset, .unset, .unset, .unset, .unset, .unset, .unset, .unset, .unset, .unset, .unset, .unset, .unset, .unset, .unset, .unset, .unset, .unset, .unset, .unset, .unset, .unset, .unset, .unset] [])) _
    refine XS.iloadN X0.here hx rfl (hb hby at_45) rfl ?_
    refine XS.bipush X0.here hx rfl (hb hby at_46) ?_
    refine XS.ishr X0.here hx rfl (hb hby at_48) rfl ?_
    refine XS.i2l X0.here hx rfl (hb hby at_49) rfl ?_
    refine XS.lstore X0.here hx rfl (hb hby at_50) rfl (l' := #[.val (.int u0), .val (.int u1), .val (.int u2), .val (.int u3), .val (.int u4), .val (.int (u4 &&& (7 : Int32))), .val (.int mv1_0), .val (.long lx0), .second, .val (.long ly0), .second, .val (.long lx1), .second, .val (.long ly1), .second, .val (.long ((u2 >>> ((16 : Int32) &&& 31)).toInt64)), .second, .unset, .unset, .unset, .unset, .unset, .unset, .unset, .unset, .unset, .unset, .unset, .unset, .unset, .unset, .unset, .unset, .unset, .unset, .unset, .unset, .unset, .unset, .unset]) rfl ?_
    refine XS.iloadN X0.here hx rfl (hb hby at_52) rfl ?_
    refine XS.i2s X0.here hx rfl (hb hby at_53) rfl ?_
    refine XS.i2l X0.here hx rfl (hb hby at_54) rfl ?_
    refine XS.lstore X0.here hx rfl (hb hby at_55) rfl (l' := #[.val (.int u0), .val (.int u1), .val (.int u2), .val (.int u3), .val (.int u4), .val (.int (u4 &&& (7 : Int32))), .val (.int mv1_0), .val (.long lx0), .second, .val (.long ly0), .second, .val (.long lx1), .second, .val (.long ly1), .second, .val (.long ((u2 >>> ((16 : Int32) &&& 31)).toInt64)), .second, .val (.long ((u2.toInt16.toInt32).toInt64)), .second, .unset, .unset, .unset, .unset, .unset, .unset, .unset, .unset, .unset, .unset, .unset, .unset, .unset, .unset, .unset, .unset, .unset, .unset, .unset, .unset, .unset]) rfl ?_
    refine st4 _ ?_
    show Steps p.tables e below (s₁.setTop (mkF m 57 #[.val (.int u0), .val (.int u1), .val (.int u2), .val (.int u3), .val (.int u4), .val (.int (u4 &&& (7 : Int32))), .val (.int mv1_0), .val (.long lx0), .second, .val (.long ly0), .second, .val (.long lx1), .second, .val (.long ly1), .second, .val (.long lx2), .second, .val (.long ly2), .second, .unset, .unset, .unset, .unset, .unset, .unset, .unset, .unset, .unset, .unset, .unset, .unset, .unset, .unset, .unset, .unset, .unset, .unset, .unset, .unset, .unset] [])) _
    refine XS.iloadN X0.here hx rfl (hb hby at_57) rfl ?_
    refine XS.bipush X0.here hx rfl (hb hby at_58) ?_
    refine XS.ishr X0.here hx rfl (hb hby at_60) rfl ?_
    refine XS.i2l X0.here hx rfl (hb hby at_61) rfl ?_
    refine XS.lstore X0.here hx rfl (hb hby at_62) rfl (l' := #[.val (.int u0), .val (.int u1), .val (.int u2), .val (.int u3), .val (.int u4), .val (.int (u4 &&& (7 : Int32))), .val (.int mv1_0), .val (.long lx0), .second, .val (.long ly0), .second, .val (.long lx1), .second, .val (.long ly1), .second, .val (.long lx2), .second, .val (.long ly2), .second, .val (.long ((u3 >>> ((16 : Int32) &&& 31)).toInt64)), .second, .unset, .unset, .unset, .unset, .unset, .unset, .unset, .unset, .unset, .unset, .unset, .unset, .unset, .unset, .unset, .unset, .unset, .unset, .unset]) rfl ?_
    refine XS.iloadN X0.here hx rfl (hb hby at_64) rfl ?_
    refine XS.i2s X0.here hx rfl (hb hby at_65) rfl ?_
    refine XS.i2l X0.here hx rfl (hb hby at_66) rfl ?_
    refine XS.lstore X0.here hx rfl (hb hby at_67) rfl (l' := #[.val (.int u0), .val (.int u1), .val (.int u2), .val (.int u3), .val (.int u4), .val (.int (u4 &&& (7 : Int32))), .val (.int mv1_0), .val (.long lx0), .second, .val (.long ly0), .second, .val (.long lx1), .second, .val (.long ly1), .second, .val (.long lx2), .second, .val (.long ly2), .second, .val (.long ((u3 >>> ((16 : Int32) &&& 31)).toInt64)), .second, .val (.long ((u3.toInt16.toInt32).toInt64)), .second, .unset, .unset, .unset, .unset, .unset, .unset, .unset, .unset, .unset, .unset, .unset, .unset, .unset, .unset, .unset, .unset, .unset]) rfl ?_
    refine st5 _ ?_
    refine st6 _ ?_
    show Steps p.tables e below (s₁.setTop (mkF m 69 #[.val (.int u0), .val (.int u1), .val (.int u2), .val (.int u3), .val (.int u4), .val (.int nk0), .val (.int nk), .val (.long lx0), .second, .val (.long ly0), .second, .val (.long lx1), .second, .val (.long ly1), .second, .val (.long lx2), .second, .val (.long ly2), .second, .val (.long lx3), .second, .val (.long ly3), .second, .unset, .unset, .unset, .unset, .unset, .unset, .unset, .unset, .unset, .unset, .unset, .unset, .unset, .unset, .unset, .unset, .unset] [])) _
    refine XS.iload X0.here hx rfl (hb hby at_69) rfl ?_
    refine XS.lload X0.here hx rfl (hb hby at_71) rfl ?_
    refine XS.lload X0.here hx rfl (hb hby at_73) rfl ?_
    refine XS.lload X0.here hx rfl (hb hby at_75) rfl ?_
    refine XS.lload X0.here hx rfl (hb hby at_77) rfl ?_
    refine XS.lload X0.here hx rfl (hb hby at_79) rfl ?_
    refine XS.lload X0.here hx rfl (hb hby at_81) rfl ?_
    refine XS.lload X0.here hx rfl (hb hby at_83) rfl ?_
    refine XS.lload X0.here hx rfl (hb hby at_85) rfl ?_
    refine st7 _ ?_
    show Steps p.tables e below (T7.setTop (mkF m 90 #[.val (.int u0), .val (.int u1), .val (.int u2), .val (.int u3), .val (.int u4), .val (.int nk0), .val (.int nk), .val (.long lx0), .second, .val (.long ly0), .second, .val (.long lx1), .second, .val (.long ly1), .second, .val (.long lx2), .second, .val (.long ly2), .second, .val (.long lx3), .second, .val (.long ly3), .second, .unset, .unset, .unset, .unset, .unset, .unset, .unset, .unset, .unset, .unset, .unset, .unset, .unset, .unset, .unset, .unset, .unset] [(.ref b7)])) _
    refine XS.astore X7.here hx rfl (hb hby at_90) rfl rfl (l' := #[.val (.int u0), .val (.int u1), .val (.int u2), .val (.int u3), .val (.int u4), .val (.int nk0), .val (.int nk), .val (.long lx0), .second, .val (.long ly0), .second, .val (.long lx1), .second, .val (.long ly1), .second, .val (.long lx2), .second, .val (.long ly2), .second, .val (.long lx3), .second, .val (.long ly3), .second, .val (.ref b7), .unset, .unset, .unset, .unset, .unset, .unset, .unset, .unset, .unset, .unset, .unset, .unset, .unset, .unset, .unset, .unset]) rfl ?_
    refine XS.iload X7.here hx rfl (hb hby at_92) rfl ?_
    refine XS.lload X7.here hx rfl (hb hby at_94) rfl ?_
    refine XS.lload X7.here hx rfl (hb hby at_96) rfl ?_
    refine XS.lload X7.here hx rfl (hb hby at_98) rfl ?_
    refine XS.lload X7.here hx rfl (hb hby at_100) rfl ?_
    refine XS.lload X7.here hx rfl (hb hby at_102) rfl ?_
    refine XS.lload X7.here hx rfl (hb hby at_104) rfl ?_
    refine XS.lload X7.here hx rfl (hb hby at_106) rfl ?_
    refine XS.lload X7.here hx rfl (hb hby at_108) rfl ?_
    refine st8 _ ?_
    show Steps p.tables e below (T8.setTop (mkF m 113 #[.val (.int u0), .val (.int u1), .val (.int u2), .val (.int u3), .val (.int u4), .val (.int nk0), .val (.int nk), .val (.long lx0), .second, .val (.long ly0), .second, .val (.long lx1), .second, .val (.long ly1), .second, .val (.long lx2), .second, .val (.long ly2), .second, .val (.long lx3), .second, .val (.long ly3), .second, .val (.ref b7), .unset, .unset, .unset, .unset, .unset, .unset, .unset, .unset, .unset, .unset, .unset, .unset, .unset, .unset, .unset, .unset] [(.ref b8)])) _
    refine XS.astore X8.here hx rfl (hb hby at_113) rfl rfl (l' := #[.val (.int u0), .val (.int u1), .val (.int u2), .val (.int u3), .val (.int u4), .val (.int nk0), .val (.int nk), .val (.long lx0), .second, .val (.long ly0), .second, .val (.long lx1), .second, .val (.long ly1), .second, .val (.long lx2), .second, .val (.long ly2), .second, .val (.long lx3), .second, .val (.long ly3), .second, .val (.ref b7), .val (.ref b8), .unset, .unset, .unset, .unset, .unset, .unset, .unset, .unset, .unset, .unset, .unset, .unset, .unset, .unset, .unset]) rfl ?_
    refine XS.iload X8.here hx rfl (hb hby at_115) rfl ?_
    refine XS.iconst X8.here hx rfl (hb hby at_117) ?_
    refine XS.icmpYes X8.here hx rfl (pc0 := 118) (pc' := 144) rfl (hb hby at_118) rfl (feq (by rw [hnk]; decide)).2 (by decide) (by decide) ?_
    refine XS.iload X8.here hx rfl (hb hby at_144) rfl ?_
    refine XS.lload X8.here hx rfl (hb hby at_146) rfl ?_
    refine XS.lload X8.here hx rfl (hb hby at_148) rfl ?_
    refine XS.lload X8.here hx rfl (hb hby at_150) rfl ?_
    refine XS.lload X8.here hx rfl (hb hby at_152) rfl ?_
    refine XS.lload X8.here hx rfl (hb hby at_154) rfl ?_
    refine XS.lload X8.here hx rfl (hb hby at_156) rfl ?_
    refine XS.lconst X8.here hx rfl (hb hby at_158) ?_
    refine XS.lconst X8.here hx rfl (hb hby at_159) ?_
    refine st9 _ ?_
    show Steps p.tables e below (T9.setTop (mkF m 163 #[.val (.int u0), .val (.int u1), .val (.int u2), .val (.int u3), .val (.int u4), .val (.int nk0), .val (.int nk), .val (.long lx0), .second, .val (.long ly0), .second, .val (.long lx1), .second, .val (.long ly1), .second, .val (.long lx2), .second, .val (.long ly2), .second, .val (.long lx3), .second, .val (.long ly3), .second, .val (.ref b7), .val (.ref b8), .unset, .unset, .unset, .unset, .unset, .unset, .unset, .unset, .unset, .unset, .unset, .unset, .unset, .unset, .unset] [(.ref b9)])) _
    refine XS.astore X9.here hx rfl (hb hby at_163) rfl rfl (l' := #[.val (.int u0), .val (.int u1), .val (.int u2), .val (.int u3), .val (.int u4), .val (.int nk0), .val (.int nk), .val (.long lx0), .second, .val (.long ly0), .second, .val (.long lx1), .second, .val (.long ly1), .second, .val (.long lx2), .second, .val (.long ly2), .second, .val (.long lx3), .second, .val (.long ly3), .second, .val (.ref b7), .val (.ref b8), .val (.ref b9), .unset, .unset, .unset, .unset, .unset, .unset, .unset, .unset, .unset, .unset, .unset, .unset, .unset, .unset]) rfl ?_
    refine XS.lload X9.here hx rfl (hb hby at_165) rfl ?_
    refine XS.lload X9.here hx rfl (hb hby at_167) rfl ?_
    refine XS.lmul X9.here hx rfl (hb hby at_169) rfl ?_
    refine XS.lload X9.here hx rfl (hb hby at_170) rfl ?_
    refine XS.lload X9.here hx rfl (hb hby at_172) rfl ?_
    refine XS.lmul X9.here hx rfl (hb hby at_174) rfl ?_
    refine XS.lsub X9.here hx rfl (hb hby at_175) rfl ?_
    refine XS.lstore X9.here hx rfl (hb hby at_176) rfl (l' := #[.val (.int u0), .val (.int u1), .val (.int u2), .val (.int u3), .val (.int u4), .val (.int nk0), .val (.int nk), .val (.long lx0), .second, .val (.long ly0), .second, .val (.long lx1), .second, .val (.long ly1), .second, .val (.long lx2), .second, .val (.long ly2), .second, .val (.long lx3), .second, .val (.long ly3), .second, .val (.ref b7), .val (.ref b8), .val (.ref b9), .val (.long ((lx0 * ly1) - (lx1 * ly0))), .second, .unset, .unset, .unset, .unset, .unset, .unset, .unset, .unset, .unset, .unset, .unset, .unset]) rfl ?_
    refine XS.lload X9.here hx rfl (hb hby at_178) rfl ?_
    refine XS.lload X9.here hx rfl (hb hby at_180) rfl ?_
    refine XS.lmul X9.here hx rfl (hb hby at_182) rfl ?_
    refine XS.lload X9.here hx rfl (hb hby at_183) rfl ?_
    refine XS.lload X9.here hx rfl (hb hby at_185) rfl ?_
    refine XS.lmul X9.here hx rfl (hb hby at_187) rfl ?_
    refine XS.lsub X9.here hx rfl (hb hby at_188) rfl ?_
    refine XS.lstore X9.here hx rfl (hb hby at_189) rfl (l' := #[.val (.int u0), .val (.int u1), .val (.int u2), .val (.int u3), .val (.int u4), .val (.int nk0), .val (.int nk), .val (.long lx0), .second, .val (.long ly0), .second, .val (.long lx1), .second, .val (.long ly1), .second, .val (.long lx2), .second, .val (.long ly2), .second, .val (.long lx3), .second, .val (.long ly3), .second, .val (.ref b7), .val (.ref b8), .val (.ref b9), .val (.long ((lx0 * ly1) - (lx1 * ly0))), .second, .val (.long ((lx1 * ly2) - (lx2 * ly1))), .second, .unset, .unset, .unset, .unset, .unset, .unset, .unset, .unset, .unset, .unset]) rfl ?_
    refine XS.lload X9.here hx rfl (hb hby at_191) rfl ?_
    refine XS.lload X9.here hx rfl (hb hby at_193) rfl ?_
    refine XS.lmul X9.here hx rfl (hb hby at_195) rfl ?_
    refine XS.lload X9.here hx rfl (hb hby at_196) rfl ?_
    refine XS.lload X9.here hx rfl (hb hby at_198) rfl ?_
    refine XS.lmul X9.here hx rfl (hb hby at_200) rfl ?_
    refine XS.lsub X9.here hx rfl (hb hby at_201) rfl ?_
    refine XS.lstore X9.here hx rfl (hb hby at_202) rfl (l' := #[.val (.int u0), .val (.int u1), .val (.int u2), .val (.int u3), .val (.int u4), .val (.int nk0), .val (.int nk), .val (.long lx0), .second, .val (.long ly0), .second, .val (.long lx1), .second, .val (.long ly1), .second, .val (.long lx2), .second, .val (.long ly2), .second, .val (.long lx3), .second, .val (.long ly3), .second, .val (.ref b7), .val (.ref b8), .val (.ref b9), .val (.long ((lx0 * ly1) - (lx1 * ly0))), .second, .val (.long ((lx1 * ly2) - (lx2 * ly1))), .second, .val (.long ((lx2 * ly0) - (lx0 * ly2))), .second, .unset, .unset, .unset, .unset, .unset, .unset, .unset, .unset]) rfl ?_
    show Steps p.tables e below (T9.setTop (mkF m 204 #[.val (.int u0), .val (.int u1), .val (.int u2), .val (.int u3), .val (.int u4), .val (.int nk0), .val (.int nk), .val (.long lx0), .second, .val (.long ly0), .second, .val (.long lx1), .second, .val (.long ly1), .second, .val (.long lx2), .second, .val (.long ly2), .second, .val (.long lx3), .second, .val (.long ly3), .second, .val (.ref b7), .val (.ref b8), .val (.ref b9), .val (.long ((lx0 * ly1) - (lx1 * ly0))), .second, .val (.long ((lx1 * ly2) - (lx2 * ly1))), .second, .val (.long ((lx2 * ly0) - (lx0 * ly2))), .second, .unset, .unset, .unset, .unset, .unset, .unset, .unset, .unset] [])) _
    refine XS.lload X9.here hx rfl (hb hby at_204) rfl ?_
    refine XS.lload X9.here hx rfl (hb hby at_206) rfl ?_
    refine XS.lmul X9.here hx rfl (hb hby at_208) rfl ?_
    refine XS.lload X9.here hx rfl (hb hby at_209) rfl ?_
    refine XS.lload X9.here hx rfl (hb hby at_211) rfl ?_
    refine XS.lmul X9.here hx rfl (hb hby at_213) rfl ?_
    refine XS.lsub X9.here hx rfl (hb hby at_214) rfl ?_
    refine XS.lstore X9.here hx rfl (hb hby at_215) rfl (l' := #[.val (.int u0), .val (.int u1), .val (.int u2), .val (.int u3), .val (.int u4), .val (.int nk0), .val (.int nk), .val (.long lx0), .second, .val (.long ly0), .second, .val (.long lx1), .second, .val (.long ly1), .second, .val (.long lx2), .second, .val (.long ly2), .second, .val (.long lx3), .second, .val (.long ly3), .second, .val (.ref b7), .val (.ref b8), .val (.ref b9), .val (.long ((lx0 * ly1) - (lx1 * ly0))), .second, .val (.long ((lx1 * ly2) - (lx2 * ly1))), .second, .val (.long ((lx2 * ly0) - (lx0 * ly2))), .second, .val (.long ((lx2 * ly3) - (lx3 * ly2))), .second, .unset, .unset, .unset, .unset, .unset, .unset]) rfl ?_
    refine XS.lload X9.here hx rfl (hb hby at_217) rfl ?_
    refine XS.lload X9.here hx rfl (hb hby at_219) rfl ?_
    refine XS.lmul X9.here hx rfl (hb hby at_221) rfl ?_
    refine XS.lload X9.here hx rfl (hb hby at_222) rfl ?_
    refine XS.lload X9.here hx rfl (hb hby at_224) rfl ?_
    refine XS.lmul X9.here hx rfl (hb hby at_226) rfl ?_
    refine XS.lsub X9.here hx rfl (hb hby at_227) rfl ?_
    refine XS.lstore X9.here hx rfl (hb hby at_228) rfl (l' := #[.val (.int u0), .val (.int u1), .val (.int u2), .val (.int u3), .val (.int u4), .val (.int nk0), .val (.int nk), .val (.long lx0), .second, .val (.long ly0), .second, .val (.long lx1), .second, .val (.long ly1), .second, .val (.long lx2), .second, .val (.long ly2), .second, .val (.long lx3), .second, .val (.long ly3), .second, .val (.ref b7), .val (.ref b8), .val (.ref b9), .val (.long ((lx0 * ly1) - (lx1 * ly0))), .second, .val (.long ((lx1 * ly2) - (lx2 * ly1))), .second, .val (.long ((lx2 * ly0) - (lx0 * ly2))), .second, .val (.long ((lx2 * ly3) - (lx3 * ly2))), .second, .val (.long ((lx3 * ly0) - (lx0 * ly3))), .second, .unset, .unset, .unset, .unset]) rfl ?_
    refine st10 _ ?_
    show Steps p.tables e below (T9.setTop (mkF m 230 #[.val (.int u0), .val (.int u1), .val (.int u2), .val (.int u3), .val (.int u4), .val (.int nk0), .val (.int nk), .val (.long lx0), .second, .val (.long ly0), .second, .val (.long lx1), .second, .val (.long ly1), .second, .val (.long lx2), .second, .val (.long ly2), .second, .val (.long lx3), .second, .val (.long ly3), .second, .val (.ref b7), .val (.ref b8), .val (.ref b9), .val (.long c26), .second, .val (.long c28), .second, .val (.long c30), .second, .val (.long c32), .second, .val (.long c34), .second, .unset, .unset, .unset, .unset] [])) _
    refine XS.lconst X9.here hx rfl (hb hby at_230) ?_
    refine XS.lstore X9.here hx rfl (hb hby at_231) rfl (l' := #[.val (.int u0), .val (.int u1), .val (.int u2), .val (.int u3), .val (.int u4), .val (.int nk0), .val (.int nk), .val (.long lx0), .second, .val (.long ly0), .second, .val (.long lx1), .second, .val (.long ly1), .second, .val (.long lx2), .second, .val (.long ly2), .second, .val (.long lx3), .second, .val (.long ly3), .second, .val (.ref b7), .val (.ref b8), .val (.ref b9), .val (.long c26), .second, .val (.long c28), .second, .val (.long c30), .second, .val (.long c32), .second, .val (.long c34), .second, .val (.long (0 : Int64)), .second, .unset, .unset]) rfl ?_
    refine XS.iload X9.here hx rfl (hb hby at_233) rfl ?_
    refine XS.iconst X9.here hx rfl (hb hby at_235) ?_
    refine XS.icmpNo X9.here hx rfl (hb hby at_236) rfl (teq hnk).2 ?_
    refine XS.lload X9.here hx rfl (hb hby at_239) rfl ?_
    refine XS.lload X9.here hx rfl (hb hby at_241) rfl ?_
    refine XS.ladd X9.here hx rfl (hb hby at_243) rfl ?_
    refine XS.lload X9.here hx rfl (hb hby at_244) rfl ?_
    refine XS.ladd X9.here hx rfl (hb hby at_246) rfl ?_
    refine XS.lstore X9.here hx rfl (hb hby at_247) rfl (l' := #[.val (.int u0), .val (.int u1), .val (.int u2), .val (.int u3), .val (.int u4), .val (.int nk0), .val (.int nk), .val (.long lx0), .second, .val (.long ly0), .second, .val (.long lx1), .second, .val (.long ly1), .second, .val (.long lx2), .second, .val (.long ly2), .second, .val (.long lx3), .second, .val (.long ly3), .second, .val (.ref b7), .val (.ref b8), .val (.ref b9), .val (.long c26), .second, .val (.long c28), .second, .val (.long c30), .second, .val (.long c32), .second, .val (.long c34), .second, .val (.long ((c26 + c28) + c30)), .second, .unset, .unset]) rfl ?_
    refine XS.goto X9.here hx rfl (pc0 := 249) (pc' := 271) rfl (hb hby at_249) (by decide) (by decide) ?_
    refine XS.aload X9.here hx rfl (hb hby at_271) rfl rfl ?_
    refine st11 _ ?_
    show Steps p.tables e below (T11.setTop (mkF m 276 #[.val (.int u0), .val (.int u1), .val (.int u2), .val (.int u3), .val (.int u4), .val (.int nk0), .val (.int nk), .val (.long lx0), .second, .val (.long ly0), .second, .val (.long lx1), .second, .val (.long ly1), .second, .val (.long lx2), .second, .val (.long ly2), .second, .val (.long lx3), .second, .val (.long ly3), .second, .val (.ref b7), .val (.ref b8), .val (.ref b9), .val (.long c26), .second, .val (.long c28), .second, .val (.long c30), .second, .val (.long c32), .second, .val (.long c34), .second, .val (.long ((c26 + c28) + c30)), .second, .unset, .unset] [(.ref b11)])) _
    refine XS.astore X11.here hx rfl (hb hby at_276) rfl rfl (l' := #[.val (.int u0), .val (.int u1), .val (.int u2), .val (.int u3), .val (.int u4), .val (.int nk0), .val (.int nk), .val (.long lx0), .second, .val (.long ly0), .second, .val (.long lx1), .second, .val (.long ly1), .second, .val (.long lx2), .second, .val (.long ly2), .second, .val (.long lx3), .second, .val (.long ly3), .second, .val (.ref b7), .val (.ref b8), .val (.ref b9), .val (.long c26), .second, .val (.long c28), .second, .val (.long c30), .second, .val (.long c32), .second, .val (.long c34), .second, .val (.long ((c26 + c28) + c30)), .second, .val (.ref b11), .unset]) rfl ?_
    refine XS.aload X11.here hx rfl (hb hby at_278) rfl rfl ?_
    refine XS.aload X11.here hx rfl (hb hby at_280) rfl rfl ?_
    refine st12 _ ?_
    show Steps p.tables e below (T12.setTop (mkF m 285 #[.val (.int u0), .val (.int u1), .val (.int u2), .val (.int u3), .val (.int u4), .val (.int nk0), .val (.int nk), .val (.long lx0), .second, .val (.long ly0), .second, .val (.long lx1), .second, .val (.long ly1), .second, .val (.long lx2), .second, .val (.long ly2), .second, .val (.long lx3), .second, .val (.long ly3), .second, .val (.ref b7), .val (.ref b8), .val (.ref b9), .val (.long c26), .second, .val (.long c28), .second, .val (.long c30), .second, .val (.long c32), .second, .val (.long c34), .second, .val (.long ((c26 + c28) + c30)), .second, .val (.ref b11), .unset] [(.int (1 : Int32))])) _
    refine XS.istore X12.here hx rfl (hb hby at_285) rfl (l' := #[.val (.int u0), .val (.int u1), .val (.int u2), .val (.int u3), .val (.int u4), .val (.int nk0), .val (.int nk), .val (.long lx0), .second, .val (.long ly0), .second, .val (.long lx1), .second, .val (.long ly1), .second, .val (.long lx2), .second, .val (.long ly2), .second, .val (.long lx3), .second, .val (.long ly3), .second, .val (.ref b7), .val (.ref b8), .val (.ref b9), .val (.long c26), .second, .val (.long c28), .second, .val (.long c30), .second, .val (.long c32), .second, .val (.long c34), .second, .val (.long ((c26 + c28) + c30)), .second, .val (.ref b11), .val (.int (1 : Int32))]) rfl ?_
    refine XS.lload X12.here hx rfl (hb hby at_287) rfl ?_
    refine XS.lconst X12.here hx rfl (hb hby at_289) ?_
    refine XS.lcmp X12.here hx rfl (hb hby at_290) rfl ?_
    refine XS.ifYes X12.here hx rfl (pc0 := 291) (pc' := 312) rfl (hb hby at_291) rfl ((if0 _ _).trans (tlt (by rw [ec26, ec28, ec30]; exact hA)).1) (by decide) (by decide) ?_
    refine XS.aload X12.here hx rfl (hb hby at_312) rfl rfl ?_
    refine XS.aload X12.here hx rfl (hb hby at_314) rfl rfl ?_
    show Steps p.tables e below (T12.setTop (mkF m 316 #[.val (.int u0), .val (.int u1), .val (.int u2), .val (.int u3), .val (.int u4), .val (.int nk0), .val (.int nk), .val (.long lx0), .second, .val (.long ly0), .second, .val (.long lx1), .second, .val (.long ly1), .second, .val (.long lx2), .second, .val (.long ly2), .second, .val (.long lx3), .second, .val (.long ly3), .second, .val (.ref b7), .val (.ref b8), .val (.ref b9), .val (.long c26), .second, .val (.long c28), .second, .val (.long c30), .second, .val (.long c32), .second, .val (.long c34), .second, .val (.long ((c26 + c28) + c30)), .second, .val (.ref b11), .val (.int (1 : Int32))] [(.ref b7), (.ref b11)])) _
    refine Jvm.RoadKit.acmp (g := (mkF m 316 #[.val (.int u0), .val (.int u1), .val (.int u2), .val (.int u3), .val (.int u4), .val (.int nk0), .val (.int nk), .val (.long lx0), .second, .val (.long ly0), .second, .val (.long lx1), .second, .val (.long ly1), .second, .val (.long lx2), .second, .val (.long ly2), .second, .val (.long lx3), .second, .val (.long ly3), .second, .val (.ref b7), .val (.ref b8), .val (.ref b9), .val (.long c26), .second, .val (.long c28), .second, .val (.long c30), .second, .val (.long c32), .second, .val (.long c34), .second, .val (.long ((c26 + c28) + c30)), .second, .val (.ref b11), .val (.int (1 : Int32))] [(.ref b7), (.ref b11)])) X12 hx rfl rfl rfl (pc0 := 316) (pc' := 319) (same := false) rfl (hb hby at_316) rfl (decide_eq_false fun q => (Ne.symm (Nat.ne_of_lt (Nat.lt_of_lt_of_le ((V7.keep K8 nin0).keep K9 nin0).lt (Nat.le_of_eq g11.symm)))) (Value.ref.inj q)) (by decide) (by decide) ?_
    show Steps p.tables e below (T12.setTop (mkF m 319 #[.val (.int u0), .val (.int u1), .val (.int u2), .val (.int u3), .val (.int u4), .val (.int nk0), .val (.int nk), .val (.long lx0), .second, .val (.long ly0), .second, .val (.long lx1), .second, .val (.long ly1), .second, .val (.long lx2), .second, .val (.long ly2), .second, .val (.long lx3), .second, .val (.long ly3), .second, .val (.ref b7), .val (.ref b8), .val (.ref b9), .val (.long c26), .second, .val (.long c28), .second, .val (.long c30), .second, .val (.long c32), .second, .val (.long c34), .second, .val (.long ((c26 + c28) + c30)), .second, .val (.ref b11), .val (.int (1 : Int32))] [])) _
    refine XS.iload X12.here hx rfl (hb hby at_319) rfl ?_
    refine XS.ifNo X12.here hx rfl (hb hby at_321) rfl ((if0 _ _).trans (feq (by decide)).1) ?_
    refine XS.aload X12.here hx rfl (hb hby at_324) rfl rfl ?_
    refine XS.aload X12.here hx rfl (hb hby at_326) rfl rfl ?_
    refine st13 _ ?_
    show Steps p.tables e below (T13.setTop (mkF m 331 #[.val (.int u0), .val (.int u1), .val (.int u2), .val (.int u3), .val (.int u4), .val (.int nk0), .val (.int nk), .val (.long lx0), .second, .val (.long ly0), .second, .val (.long lx1), .second, .val (.long ly1), .second, .val (.long lx2), .second, .val (.long ly2), .second, .val (.long lx3), .second, .val (.long ly3), .second, .val (.ref b7), .val (.ref b8), .val (.ref b9), .val (.long c26), .second, .val (.long c28), .second, .val (.long c30), .second, .val (.long c32), .second, .val (.long c34), .second, .val (.long ((c26 + c28) + c30)), .second, .val (.ref b11), .val (.int (1 : Int32))] [(.int (1 : Int32))])) _
    refine XS.ifNo X13.here hx rfl (hb hby at_331) rfl ((if0 _ _).trans (feq (by decide)).1) ?_
    refine XS.iconst X13.here hx rfl (hb hby at_334) ?_
    refine XS.goto X13.here hx rfl (pc0 := 335) (pc' := 339) rfl (hb hby at_335) (by decide) (by decide) ?_
    show Steps p.tables e below (T13.setTop (mkF m 339 #[.val (.int u0), .val (.int u1), .val (.int u2), .val (.int u3), .val (.int u4), .val (.int nk0), .val (.int nk), .val (.long lx0), .second, .val (.long ly0), .second, .val (.long lx1), .second, .val (.long ly1), .second, .val (.long lx2), .second, .val (.long ly2), .second, .val (.long lx3), .second, .val (.long ly3), .second, .val (.ref b7), .val (.ref b8), .val (.ref b9), .val (.long c26), .second, .val (.long c28), .second, .val (.long c30), .second, .val (.long c32), .second, .val (.long c34), .second, .val (.long ((c26 + c28) + c30)), .second, .val (.ref b11), .val (.int (1 : Int32))] [(.int (1 : Int32))])) _
    exact retN X13 hx (t := .boolean) Bd.returns (by simp) (hb hby at_339) hr
  · show QL3n Z u0 u1 u2 u3 u4 h0 n0 _ T13.heap _
    rw [e13]
    exact ⟨rfl, N13⟩
theorem ef_L4 (m : MethodId) (u0 : Int32) (u1 : Int32) (u2 : Int32) (u3 : Int32) (u4 : Int32) : entryFrame m #[(.int u0), (.int u1), (.int u2), (.int u3), (.int u4)] maxLocals = mkF m 0 #[.val (.int u0), .val (.int u1), .val (.int u2), .val (.int u3), .val (.int u4), .unset, .unset, .unset, .unset, .unset, .unset, .unset, .unset, .unset, .unset, .unset, .unset, .unset, .unset, .unset, .unset, .unset, .unset, .unset, .unset, .unset, .unset, .unset, .unset, .unset, .unset, .unset, .unset, .unset, .unset, .unset, .unset, .unset, .unset, .unset] [] := by first | (simp [entryFrame, mkF, argsToLocals, Value.category, maxLocals]; done) | rfl
def QL4 (Z : State) (u0 : Int32) (u1 : Int32) (u2 : Int32) (u3 : Int32) (u4 : Int32) (h0 : Heap) (n0 : Nat) (v : Option Value) (h : Heap) (L : List Loc) : Prop := v = some (.int (1 : Int32)) ∧ Fr n0 L
set_option maxRecDepth 65536 in
set_option maxHeartbeats 40000000 in
theorem rmL4 (l : Launch) (Z : State) (a0 : Array Value) (hw : ∀ d ∈ tables_1, d.before a0 Z = true) (ws : List Jvm.Cond) (u0 : Int32) (u1 : Int32) (u2 : Int32) (u3 : Int32) (u4 : Int32) (h0 : Heap) (n0 : Nat) (Z0 : n0 ≤ h0.size) (hk : (if (4 : Int32) < (u4 &&& (7 : Int32)) then (4 : Int32) else (u4 &&& (7 : Int32))) = (4 : Int32)) (hA : ¬ lcmpW (((((((u0 >>> ((16 : Int32) &&& 31)).toInt64) * ((u1.toInt16.toInt32).toInt64)) - (((u1 >>> ((16 : Int32) &&& 31)).toInt64) * ((u0.toInt16.toInt32).toInt64))) + ((((u1 >>> ((16 : Int32) &&& 31)).toInt64) * ((u2.toInt16.toInt32).toInt64)) - (((u2 >>> ((16 : Int32) &&& 31)).toInt64) * ((u1.toInt16.toInt32).toInt64)))) + ((((u2 >>> ((16 : Int32) &&& 31)).toInt64) * ((u3.toInt16.toInt32).toInt64)) - (((u3 >>> ((16 : Int32) &&& 31)).toInt64) * ((u2.toInt16.toInt32).toInt64)))) + ((((u3 >>> ((16 : Int32) &&& 31)).toInt64) * ((u0.toInt16.toInt32).toInt64)) - (((u0 >>> ((16 : Int32) &&& 31)).toInt64) * ((u3.toInt16.toInt32).toInt64)))) (0 : Int64) < 0) :
    MetFree l x (head1 (Jvm.Cond.code x code maxLocals ret :: ws) room_1) (fun a U => a = #[(.int u0), (.int u1), (.int u2), (.int u3), (.int u4)] ∧ Z.Warmed39 U.vm ∧ U.heap = h0) (fun _ _ _ _ _ => True) (fun _ U o U' => ∃ v L, o = .returned v ∧ QL4 Z u0 u1 u2 u3 u4 h0 n0 v U'.heap L ∧ FrameEnd U o U' L room_1.cells room_1.slots) := by
  refine MetFree.of_bodySF (plainFor_of_name pn_com_example_decorum_decorum_graphics_RasterizerClockwisePinLaw) hisR ?_
  intro p e s m args below meth c s₁ Bd hml0 hP hK
  obtain ⟨rfl, hZ, hh⟩ := hP
  have hx := Bd.exec
  have hby := Bd.bytes
  have hml : c.maxLocals = 40 := hml0
  have hown : s.vm.findClass "com/example/decorum/decorum/graphics/RasterizerClockwisePinLaw" = some m.cls := findClass_of_methodNamed Bd.named
  have hnm := (name_of_methodNamed Bd.named Bd.method).1
  have X0 : Stand p l e room_1 s m #[(.int u0), (.int u1), (.int u2), (.int u3), (.int u4)] below meth c s₁ [] 0 0 := Stand.of_body Bd
  have e0 : s₁.heap = h0 := by rw [← hh, Bd.state]; rfl
  have N0 := Fr.nil n0
  have pre0 : ∀ t, Steps p.tables e below (s₁.setTop (mkF m 0 #[.val (.int u0), .val (.int u1), .val (.int u2), .val (.int u3), .val (.int u4), .unset, .unset, .unset, .unset, .unset, .unset, .unset, .unset, .unset, .unset, .unset, .unset, .unset, .unset, .unset, .unset, .unset, .unset, .unset, .unset, .unset, .unset, .unset, .unset, .unset, .unset, .unset, .unset, .unset, .unset, .unset, .unset, .unset, .unset, .unset] [])) t → Steps p.tables e below (s₁.setTop (entryFrame m #[(.int u0), (.int u1), (.int u2), (.int u3), (.int u4)] maxLocals)) t := fun t k => castTop (ef_L4 m u0 u1 u2 u3 u4) k
  obtain ⟨mv1_0, me1_0⟩ : ∃ z : Int32, z = (if (4 : Int32) < (u4 &&& (7 : Int32)) then (4 : Int32) else (u4 &&& (7 : Int32))) := ⟨_, rfl⟩
  have st1 : ∀ target, Steps p.tables e below (s₁.setTop (mkF m 19 #[.val (.int u0), .val (.int u1), .val (.int u2), .val (.int u3), .val (.int u4), .val (.int (u4 &&& (7 : Int32))), .unset, .unset, .unset, .unset, .unset, .unset, .unset, .unset, .unset, .unset, .unset, .unset, .unset, .unset, .unset, .unset, .unset, .unset, .unset, .unset, .unset, .unset, .unset, .unset, .unset, .unset, .unset, .unset, .unset, .unset, .unset, .unset, .unset, .unset] [(.int mv1_0)])) target → Steps p.tables e below (s₁.setTop (mkF m 7 #[.val (.int u0), .val (.int u1), .val (.int u2), .val (.int u3), .val (.int u4), .val (.int (u4 &&& (7 : Int32))), .unset, .unset, .unset, .unset, .unset, .unset, .unset, .unset, .unset, .unset, .unset, .unset, .unset, .unset, .unset, .unset, .unset, .unset, .unset, .unset, .unset, .unset, .unset, .unset, .unset, .unset, .unset, .unset, .unset, .unset, .unset, .unset, .unset, .unset] [])) target := by
    intro target kt
    rw [me1_0] at kt
    by_cases hc10 : (4 : Int32) < (u4 &&& (7 : Int32))
    · simp only [if_pos hc10] at kt
      refine XS.iload X0.here hx rfl (hb hby at_7) rfl ?_
      refine XS.iconst X0.here hx rfl (hb hby at_9) ?_
      refine XS.icmpNo X0.here hx rfl (hb hby at_10) rfl (tlt hc10).2.2.2 ?_
      refine XS.iconst X0.here hx rfl (hb hby at_13) ?_
      refine XS.goto X0.here hx rfl (pc0 := 14) (pc' := 19) rfl (hb hby at_14) (by decide) (by decide) ?_
      exact kt
    · simp only [if_neg hc10] at kt
      refine XS.iload X0.here hx rfl (hb hby at_7) rfl ?_
      refine XS.iconst X0.here hx rfl (hb hby at_9) ?_
      refine XS.icmpYes X0.here hx rfl (pc0 := 10) (pc' := 17) rfl (hb hby at_10) rfl (flt hc10).2.2.2 (by decide) (by decide) ?_
      refine XS.iload X0.here hx rfl (hb hby at_17) rfl ?_
      exact kt
  obtain ⟨lx0, elx0⟩ : ∃ z : Int64, z = ((u0 >>> ((16 : Int32) &&& 31)).toInt64) := ⟨_, rfl⟩
  obtain ⟨ly0, ely0⟩ : ∃ z : Int64, z = ((u0.toInt16.toInt32).toInt64) := ⟨_, rfl⟩
  have st2 : ∀ target, Steps p.tables e below (s₁.setTop (mkF m 33 #[.val (.int u0), .val (.int u1), .val (.int u2), .val (.int u3), .val (.int u4), .val (.int (u4 &&& (7 : Int32))), .val (.int mv1_0), .val (.long lx0), .second, .val (.long ly0), .second, .unset, .unset, .unset, .unset, .unset, .unset, .unset, .unset, .unset, .unset, .unset, .unset, .unset, .unset, .unset, .unset, .unset, .unset, .unset, .unset, .unset, .unset, .unset, .unset, .unset, .unset, .unset, .unset, .unset] [])) target → Steps p.tables e below (s₁.setTop (mkF m 33 #[.val (.int u0), .val (.int u1), .val (.int u2), .val (.int u3), .val (.int u4), .val (.int (u4 &&& (7 : Int32))), .val (.int mv1_0), .val (.long ((u0 >>> ((16 : Int32) &&& 31)).toInt64)), .second, .val (.long ((u0.toInt16.toInt32).toInt64)), .second, .unset, .unset, .unset, .unset, .unset, .unset, .unset, .unset, .unset, .unset, .unset, .unset, .unset, .unset, .unset, .unset, .unset, .unset, .unset, .unset, .unset, .unset, .unset, .unset, .unset, .unset, .unset, .unset, .unset] [])) target := by intro target kt; rw [elx0, ely0] at kt; exact kt
  obtain ⟨lx1, elx1⟩ : ∃ z : Int64, z = ((u1 >>> ((16 : Int32) &&& 31)).toInt64) := ⟨_, rfl⟩
  obtain ⟨ly1, ely1⟩ : ∃ z : Int64, z = ((u1.toInt16.toInt32).toInt64) := ⟨_, rfl⟩
  have st3 : ∀ target, Steps p.tables e below (s₁.setTop (mkF m 45 #[.val (.int u0), .val (.int u1), .val (.int u2), .val (.int u3), .val (.int u4), .val (.int (u4 &&& (7 : Int32))), .val (.int mv1_0), .val (.long lx0), .second, .val (.long ly0), .second, .val (.long lx1), .second, .val (.long ly1), .second, .unset, .unset, .unset, .unset, .unset, .unset, .unset, .unset, .unset, .unset, .unset, .unset, .unset, .unset, .unset, .unset, .unset, .unset, .unset, .unset, .unset, .unset, .unset, .unset, .unset] [])) target → Steps p.tables e below (s₁.setTop (mkF m 45 #[.val (.int u0), .val (.int u1), .val (.int u2), .val (.int u3), .val (.int u4), .val (.int (u4 &&& (7 : Int32))), .val (.int mv1_0), .val (.long lx0), .second, .val (.long ly0), .second, .val (.long ((u1 >>> ((16 : Int32) &&& 31)).toInt64)), .second, .val (.long ((u1.toInt16.toInt32).toInt64)), .second, .unset, .unset, .unset, .unset, .unset, .unset, .unset, .unset, .unset, .unset, .unset, .unset, .unset, .unset, .unset, .unset, .unset, .unset, .unset, .unset, .unset, .unset, .unset, .unset, .unset] [])) target := by intro target kt; rw [elx1, ely1] at kt; exact kt
  obtain ⟨lx2, elx2⟩ : ∃ z : Int64, z = ((u2 >>> ((16 : Int32) &&& 31)).toInt64) := ⟨_, rfl⟩
  obtain ⟨ly2, ely2⟩ : ∃ z : Int64, z = ((u2.toInt16.toInt32).toInt64) := ⟨_, rfl⟩
  have st4 : ∀ target, Steps p.tables e below (s₁.setTop (mkF m 57 #[.val (.int u0), .val (.int u1), .val (.int u2), .val (.int u3), .val (.int u4), .val (.int (u4 &&& (7 : Int32))), .val (.int mv1_0), .val (.long lx0), .second, .val (.long ly0), .second, .val (.long lx1), .second, .val (.long ly1), .second, .val (.long lx2), .second, .val (.long ly2), .second, .unset, .unset, .unset, .unset, .unset, .unset, .unset, .unset, .unset, .unset, .unset, .unset, .unset, .unset, .unset, .unset, .unset, .unset, .unset, .unset, .unset] [])) target → Steps p.tables e below (s₁.setTop (mkF m 57 #[.val (.int u0), .val (.int u1), .val (.int u2), .val (.int u3), .val (.int u4), .val (.int (u4 &&& (7 : Int32))), .val (.int mv1_0), .val (.long lx0), .second, .val (.long ly0), .second, .val (.long lx1), .second, .val (.long ly1), .second, .val (.long ((u2 >>> ((16 : Int32) &&& 31)).toInt64)), .second, .val (.long ((u2.toInt16.toInt32).toInt64)), .second, .unset, .unset, .unset, .unset, .unset, .unset, .unset, .unset, .unset, .unset, .unset, .unset, .unset, .unset, .unset, .unset, .unset, .unset, .unset, .unset, .unset] [])) target := by intro target kt; rw [elx2, ely2] at kt; exact kt
  obtain ⟨lx3, elx3⟩ : ∃ z : Int64, z = ((u3 >>> ((16 : Int32) &&& 31)).toInt64) := ⟨_, rfl⟩
  obtain ⟨ly3, ely3⟩ : ∃ z : Int64, z = ((u3.toInt16.toInt32).toInt64) := ⟨_, rfl⟩
  have st5 : ∀ target, Steps p.tables e below (s₁.setTop (mkF m 69 #[.val (.int u0), .val (.int u1), .val (.int u2), .val (.int u3), .val (.int u4), .val (.int (u4 &&& (7 : Int32))), .val (.int mv1_0), .val (.long lx0), .second, .val (.long ly0), .second, .val (.long lx1), .second, .val (.long ly1), .second, .val (.long lx2), .second, .val (.long ly2), .second, .val (.long lx3), .second, .val (.long ly3), .second, .unset, .unset, .unset, .unset, .unset, .unset, .unset, .unset, .unset, .unset, .unset, .unset, .unset, .unset, .unset, .unset, .unset] [])) target → Steps p.tables e below (s₁.setTop (mkF m 69 #[.val (.int u0), .val (.int u1), .val (.int u2), .val (.int u3), .val (.int u4), .val (.int (u4 &&& (7 : Int32))), .val (.int mv1_0), .val (.long lx0), .second, .val (.long ly0), .second, .val (.long lx1), .second, .val (.long ly1), .second, .val (.long lx2), .second, .val (.long ly2), .second, .val (.long ((u3 >>> ((16 : Int32) &&& 31)).toInt64)), .second, .val (.long ((u3.toInt16.toInt32).toInt64)), .second, .unset, .unset, .unset, .unset, .unset, .unset, .unset, .unset, .unset, .unset, .unset, .unset, .unset, .unset, .unset, .unset, .unset] [])) target := by intro target kt; rw [elx3, ely3] at kt; exact kt
  obtain ⟨nk0, enk0⟩ : ∃ z : Int32, z = (u4 &&& (7 : Int32)) := ⟨_, rfl⟩
  obtain ⟨nk, enk⟩ : ∃ z : Int32, z = mv1_0 := ⟨_, rfl⟩
  have st6 : ∀ target, Steps p.tables e below (s₁.setTop (mkF m 69 #[.val (.int u0), .val (.int u1), .val (.int u2), .val (.int u3), .val (.int u4), .val (.int nk0), .val (.int nk), .val (.long lx0), .second, .val (.long ly0), .second, .val (.long lx1), .second, .val (.long ly1), .second, .val (.long lx2), .second, .val (.long ly2), .second, .val (.long lx3), .second, .val (.long ly3), .second, .unset, .unset, .unset, .unset, .unset, .unset, .unset, .unset, .unset, .unset, .unset, .unset, .unset, .unset, .unset, .unset, .unset] [])) target → Steps p.tables e below (s₁.setTop (mkF m 69 #[.val (.int u0), .val (.int u1), .val (.int u2), .val (.int u3), .val (.int u4), .val (.int (u4 &&& (7 : Int32))), .val (.int mv1_0), .val (.long lx0), .second, .val (.long ly0), .second, .val (.long lx1), .second, .val (.long ly1), .second, .val (.long lx2), .second, .val (.long ly2), .second, .val (.long lx3), .second, .val (.long ly3), .second, .unset, .unset, .unset, .unset, .unset, .unset, .unset, .unset, .unset, .unset, .unset, .unset, .unset, .unset, .unset, .unset, .unset] [])) target := by intro target kt; rw [enk, enk0] at kt; exact kt
  have hnk : nk = (4 : Int32) := enk.trans (me1_0.trans hk)
  obtain ⟨xda0, Lx0⟩ : ∃ i, LI i 32768 lx0 := ⟨_, elx0 ▸ LI.shr u0⟩
  obtain ⟨da0, eda0⟩ : ∃ z, z = FP.l2d lx0 := ⟨_, rfl⟩
  have Dda0 := LI.d Lx0 eda0 (by decide)
  obtain ⟨xdq0, Ly0⟩ : ∃ i, LI i 32768 ly0 := ⟨_, ely0 ▸ LI.i2s u0⟩
  obtain ⟨dq0, edq0⟩ : ∃ z, z = FP.l2d ly0 := ⟨_, rfl⟩
  have Ddq0 := LI.d Ly0 edq0 (by decide)
  obtain ⟨xda1, Lx1⟩ : ∃ i, LI i 32768 lx1 := ⟨_, elx1 ▸ LI.shr u1⟩
  obtain ⟨da1, eda1⟩ : ∃ z, z = FP.l2d lx1 := ⟨_, rfl⟩
  have Dda1 := LI.d Lx1 eda1 (by decide)
  obtain ⟨xdq1, Ly1⟩ : ∃ i, LI i 32768 ly1 := ⟨_, ely1 ▸ LI.i2s u1⟩
  obtain ⟨dq1, edq1⟩ : ∃ z, z = FP.l2d ly1 := ⟨_, rfl⟩
  have Ddq1 := LI.d Ly1 edq1 (by decide)
  obtain ⟨xda2, Lx2⟩ : ∃ i, LI i 32768 lx2 := ⟨_, elx2 ▸ LI.shr u2⟩
  obtain ⟨da2, eda2⟩ : ∃ z, z = FP.l2d lx2 := ⟨_, rfl⟩
  have Dda2 := LI.d Lx2 eda2 (by decide)
  obtain ⟨xdq2, Ly2⟩ : ∃ i, LI i 32768 ly2 := ⟨_, ely2 ▸ LI.i2s u2⟩
  obtain ⟨dq2, edq2⟩ : ∃ z, z = FP.l2d ly2 := ⟨_, rfl⟩
  have Ddq2 := LI.d Ly2 edq2 (by decide)
  obtain ⟨xda3, Lx3⟩ : ∃ i, LI i 32768 lx3 := ⟨_, elx3 ▸ LI.shr u3⟩
  obtain ⟨da3, eda3⟩ : ∃ z, z = FP.l2d lx3 := ⟨_, rfl⟩
  have Dda3 := LI.d Lx3 eda3 (by decide)
  obtain ⟨xdq3, Ly3⟩ : ∃ i, LI i 32768 ly3 := ⟨_, ely3 ▸ LI.i2s u3⟩
  obtain ⟨dq3, edq3⟩ : ∃ z, z = FP.l2d ly3 := ⟨_, rfl⟩
  have Ddq3 := LI.d Ly3 edq3 (by decide)
  replace hA : ¬ lcmpW (((((lx0 * ly1) - (lx1 * ly0)) + ((lx1 * ly2) - (lx2 * ly1))) + ((lx2 * ly3) - (lx3 * ly2))) + ((lx3 * ly0) - (lx0 * ly3))) (0 : Int64) < 0 := by rw [elx0, elx1, elx2, elx3, ely0, ely1, ely2, ely3]; exact hA
  have hL := LI.neg (LI.add (LI.add (LI.add (LI.sub (LI.mul Lx0 Ly1 (by decide)) (LI.mul Lx1 Ly0 (by decide)) (by decide)) (LI.sub (LI.mul Lx1 Ly2 (by decide)) (LI.mul Lx2 Ly1 (by decide)) (by decide)) (by decide)) (LI.sub (LI.mul Lx2 Ly3 (by decide)) (LI.mul Lx3 Ly2 (by decide)) (by decide)) (by decide)) (LI.sub (LI.mul Lx3 Ly0 (by decide)) (LI.mul Lx0 Ly3 (by decide)) (by decide)) (by decide))
  have hB : ¬ ((((((0 : Int) + ((xda0 * xdq1) - (xda1 * xdq0))) + ((xda1 * xdq2) - (xda2 * xdq1))) + ((xda2 * xdq3) - (xda3 * xdq2))) + ((xda3 * xdq0) - (xda0 * xdq3))) < 0) := by have q := mt hL.mpr hA; omega
  obtain ⟨_, _, ⟨T7, L7, k7, n7⟩, -, X7, ⟨Lc7, hQ7, l7, y7, z7⟩, st7⟩ := Jvm.LawKit.callS X0 hx (y := (⟨"com/example/decorum/decorum/graphics/RasterizerClockwisePinLaw", "build", "(IJJJJJJJJ)[D"⟩ : MethodName)) hown (mvT hZ (hw _ (List.mem_of_getElem? (i := 0) rfl))) (mvT hZ (hw _ (List.mem_of_getElem? (i := 1) rfl))) (mvT hZ (hw _ (List.mem_of_getElem? (i := 2) rfl))) (mvT hZ (hw _ (List.mem_of_getElem? (i := 3) rfl))) (by decide) (backOf (W := 0) (rmB4 l Z a0 hw [] nk lx0 ly0 lx1 ly1 lx2 ly2 lx3 ly3 da0 dq0 da1 dq1 da2 dq2 da3 dq3 h0 n0 Z0 hnk eda0 edq0 eda1 edq1 eda2 edq2 eda3 edq3) hZ (hw _ (List.mem_of_getElem? (i := 3) rfl)) (hw _ (List.mem_of_getElem? (i := 2) rfl)) (by decide) (by decide)) (g := (mkF m 87 #[.val (.int u0), .val (.int u1), .val (.int u2), .val (.int u3), .val (.int u4), .val (.int nk0), .val (.int nk), .val (.long lx0), .second, .val (.long ly0), .second, .val (.long lx1), .second, .val (.long ly1), .second, .val (.long lx2), .second, .val (.long ly2), .second, .val (.long lx3), .second, .val (.long ly3), .second, .unset, .unset, .unset, .unset, .unset, .unset, .unset, .unset, .unset, .unset, .unset, .unset, .unset, .unset, .unset, .unset, .unset] [(.long ly3), (.long lx3), (.long ly2), (.long lx2), (.long ly1), (.long lx1), (.long ly0), (.long lx0), (.int nk)])) rfl (by rw [hml]; rfl) (argsL := [(.int nk), (.long lx0), (.long ly0), (.long lx1), (.long ly1), (.long lx2), (.long ly2), (.long lx3), (.long ly3)]) (rest := []) (lenOf pd_0 rfl) rfl (by show 2 * 0 + _ ≤ _; exact Nat.le_of_eq rfl) (hb hby at_87) (fun _ _ => ⟨rfl, e0, (by decide : 0 + 1 ≤ _), (by decide : 0 + 8 ≤ _)⟩)
  dsimp only [Pt.U, Pt.locs, Pt.cells, Pt.slots] at X7 l7 y7 z7 st7 hQ7
  replace y7 : k7 = 1 := y7
  replace z7 : n7 = 8 := z7
  rw [y7, z7] at X7
  obtain ⟨hv7, N7q, K7, kk7, V7⟩ := hQ7
  obtain ⟨b7, g7⟩ : ∃ z, z = h0.size := ⟨_, rfl⟩
  rw [← g7] at hv7 V7
  subst hv7
  have g_b7 : n0 ≤ b7 := Nat.le_trans Z0 (Nat.le_of_eq g7.symm)
  have sz_b7 : h0.size ≤ b7 := Nat.le_trans (Keep.refl h0 []).1 (Nat.le_of_eq g7.symm)
  have N7 : Fr n0 L7 := l7 ▸ Fr.app N0 N7q
  have Z7 : n0 ≤ T7.heap.size := Nat.le_trans Z0 K7.1
  have KK7 := (Keep.refl h0 []).trans K7 all0
  obtain ⟨_, _, ⟨T8, L8, k8, n8⟩, -, X8, ⟨Lc8, hQ8, l8, y8, z8⟩, st8⟩ := Jvm.LawKit.callS X7 hx (y := (⟨"com/example/decorum/decorum/graphics/RasterizerClockwisePinLaw", "build", "(IJJJJJJJJ)[D"⟩ : MethodName)) hown (mvT hZ (hw _ (List.mem_of_getElem? (i := 0) rfl))) (mvT hZ (hw _ (List.mem_of_getElem? (i := 1) rfl))) (mvT hZ (hw _ (List.mem_of_getElem? (i := 2) rfl))) (mvT hZ (hw _ (List.mem_of_getElem? (i := 3) rfl))) (by decide) (backOf (W := 0) (rmB4 l Z a0 hw [] nk lx0 ly0 lx1 ly1 lx2 ly2 lx3 ly3 da0 dq0 da1 dq1 da2 dq2 da3 dq3 T7.heap n0 Z7 hnk eda0 edq0 eda1 edq1 eda2 edq2 eda3 edq3) hZ (hw _ (List.mem_of_getElem? (i := 3) rfl)) (hw _ (List.mem_of_getElem? (i := 2) rfl)) (by decide) (by decide)) (g := (mkF m 110 #[.val (.int u0), .val (.int u1), .val (.int u2), .val (.int u3), .val (.int u4), .val (.int nk0), .val (.int nk), .val (.long lx0), .second, .val (.long ly0), .second, .val (.long lx1), .second, .val (.long ly1), .second, .val (.long lx2), .second, .val (.long ly2), .second, .val (.long lx3), .second, .val (.long ly3), .second, .val (.ref b7), .unset, .unset, .unset, .unset, .unset, .unset, .unset, .unset, .unset, .unset, .unset, .unset, .unset, .unset, .unset, .unset] [(.long ly3), (.long lx3), (.long ly2), (.long lx2), (.long ly1), (.long lx1), (.long ly0), (.long lx0), (.int nk)])) rfl (by rw [hml]; rfl) (argsL := [(.int nk), (.long lx0), (.long ly0), (.long lx1), (.long ly1), (.long lx2), (.long ly2), (.long lx3), (.long ly3)]) (rest := []) (lenOf pd_0 rfl) rfl (by show 2 * 0 + _ ≤ _; exact Nat.le_of_eq rfl) (hb hby at_110) (fun _ _ => ⟨rfl, rfl, (by decide : 1 + 1 ≤ _), (by decide : 8 + 8 ≤ _)⟩)
  dsimp only [Pt.U, Pt.locs, Pt.cells, Pt.slots] at X8 l8 y8 z8 st8 hQ8
  replace y8 : k8 = 2 := y8
  replace z8 : n8 = 16 := z8
  rw [y8, z8] at X8
  obtain ⟨hv8, N8q, K8, kk8, V8⟩ := hQ8
  obtain ⟨b8, g8⟩ : ∃ z, z = T7.heap.size := ⟨_, rfl⟩
  rw [← g8] at hv8 V8
  subst hv8
  have g_b8 : n0 ≤ b8 := Nat.le_trans Z7 (Nat.le_of_eq g8.symm)
  have sz_b8 : h0.size ≤ b8 := Nat.le_trans KK7.1 (Nat.le_of_eq g8.symm)
  have N8 : Fr n0 L8 := l8 ▸ Fr.app N7 N8q
  have Z8 : n0 ≤ T8.heap.size := Nat.le_trans Z7 K8.1
  have KK8 := KK7.trans K8 all0
  obtain ⟨_, _, ⟨T9, L9, k9, n9⟩, -, X9, ⟨Lc9, hQ9, l9, y9, z9⟩, st9⟩ := Jvm.LawKit.callS X8 hx (y := (⟨"com/example/decorum/decorum/graphics/RasterizerClockwisePinLaw", "build", "(IJJJJJJJJ)[D"⟩ : MethodName)) hown (mvT hZ (hw _ (List.mem_of_getElem? (i := 0) rfl))) (mvT hZ (hw _ (List.mem_of_getElem? (i := 1) rfl))) (mvT hZ (hw _ (List.mem_of_getElem? (i := 2) rfl))) (mvT hZ (hw _ (List.mem_of_getElem? (i := 3) rfl))) (by decide) (backOf (W := 0) (rmB4 l Z a0 hw [] (4 : Int32) lx3 ly3 lx2 ly2 lx1 ly1 lx0 ly0 da3 dq3 da2 dq2 da1 dq1 da0 dq0 T8.heap n0 Z8 rfl eda3 edq3 eda2 edq2 eda1 edq1 eda0 edq0) hZ (hw _ (List.mem_of_getElem? (i := 3) rfl)) (hw _ (List.mem_of_getElem? (i := 2) rfl)) (by decide) (by decide)) (g := (mkF m 138 #[.val (.int u0), .val (.int u1), .val (.int u2), .val (.int u3), .val (.int u4), .val (.int nk0), .val (.int nk), .val (.long lx0), .second, .val (.long ly0), .second, .val (.long lx1), .second, .val (.long ly1), .second, .val (.long lx2), .second, .val (.long ly2), .second, .val (.long lx3), .second, .val (.long ly3), .second, .val (.ref b7), .val (.ref b8), .unset, .unset, .unset, .unset, .unset, .unset, .unset, .unset, .unset, .unset, .unset, .unset, .unset, .unset, .unset] [(.long ly0), (.long lx0), (.long ly1), (.long lx1), (.long ly2), (.long lx2), (.long ly3), (.long lx3), (.int (4 : Int32))])) rfl (by rw [hml]; rfl) (argsL := [(.int (4 : Int32)), (.long lx3), (.long ly3), (.long lx2), (.long ly2), (.long lx1), (.long ly1), (.long lx0), (.long ly0)]) (rest := []) (lenOf pd_0 rfl) rfl (by show 2 * 0 + _ ≤ _; exact Nat.le_of_eq rfl) (hb hby at_138) (fun _ _ => ⟨rfl, rfl, (by decide : 2 + 1 ≤ _), (by decide : 16 + 8 ≤ _)⟩)
  dsimp only [Pt.U, Pt.locs, Pt.cells, Pt.slots] at X9 l9 y9 z9 st9 hQ9
  replace y9 : k9 = 3 := y9
  replace z9 : n9 = 24 := z9
  rw [y9, z9] at X9
  obtain ⟨hv9, N9q, K9, kk9, V9⟩ := hQ9
  obtain ⟨b9, g9⟩ : ∃ z, z = T8.heap.size := ⟨_, rfl⟩
  rw [← g9] at hv9 V9
  subst hv9
  have g_b9 : n0 ≤ b9 := Nat.le_trans Z8 (Nat.le_of_eq g9.symm)
  have sz_b9 : h0.size ≤ b9 := Nat.le_trans KK8.1 (Nat.le_of_eq g9.symm)
  have N9 : Fr n0 L9 := l9 ▸ Fr.app N8 N9q
  have Z9 : n0 ≤ T9.heap.size := Nat.le_trans Z8 K9.1
  have KK9 := KK8.trans K9 all0
  obtain ⟨c26, ec26⟩ : ∃ z : Int64, z = ((lx0 * ly1) - (lx1 * ly0)) := ⟨_, rfl⟩
  obtain ⟨c28, ec28⟩ : ∃ z : Int64, z = ((lx1 * ly2) - (lx2 * ly1)) := ⟨_, rfl⟩
  obtain ⟨c30, ec30⟩ : ∃ z : Int64, z = ((lx2 * ly0) - (lx0 * ly2)) := ⟨_, rfl⟩
  obtain ⟨c32, ec32⟩ : ∃ z : Int64, z = ((lx2 * ly3) - (lx3 * ly2)) := ⟨_, rfl⟩
  obtain ⟨c34, ec34⟩ : ∃ z : Int64, z = ((lx3 * ly0) - (lx0 * ly3)) := ⟨_, rfl⟩
  have st10 : ∀ target, Steps p.tables e below (T9.setTop (mkF m 230 #[.val (.int u0), .val (.int u1), .val (.int u2), .val (.int u3), .val (.int u4), .val (.int nk0), .val (.int nk), .val (.long lx0), .second, .val (.long ly0), .second, .val (.long lx1), .second, .val (.long ly1), .second, .val (.long lx2), .second, .val (.long ly2), .second, .val (.long lx3), .second, .val (.long ly3), .second, .val (.ref b7), .val (.ref b8), .val (.ref b9), .val (.long c26), .second, .val (.long c28), .second, .val (.long c30), .second, .val (.long c32), .second, .val (.long c34), .second, .unset, .unset, .unset, .unset] [])) target → Steps p.tables e below (T9.setTop (mkF m 230 #[.val (.int u0), .val (.int u1), .val (.int u2), .val (.int u3), .val (.int u4), .val (.int nk0), .val (.int nk), .val (.long lx0), .second, .val (.long ly0), .second, .val (.long lx1), .second, .val (.long ly1), .second, .val (.long lx2), .second, .val (.long ly2), .second, .val (.long lx3), .second, .val (.long ly3), .second, .val (.ref b7), .val (.ref b8), .val (.ref b9), .val (.long ((lx0 * ly1) - (lx1 * ly0))), .second, .val (.long ((lx1 * ly2) - (lx2 * ly1))), .second, .val (.long ((lx2 * ly0) - (lx0 * ly2))), .second, .val (.long ((lx2 * ly3) - (lx3 * ly2))), .second, .val (.long ((lx3 * ly0) - (lx0 * ly3))), .second, .unset, .unset, .unset, .unset] [])) target := by intro target kt; rw [ec26, ec28, ec30, ec32, ec34] at kt; exact kt
  obtain ⟨_, _, ⟨T11, L11, k11, n11⟩, -, X11, ⟨Lc11, hQ11, l11, y11, z11⟩, st11⟩ := Jvm.LawKit.callS X9 hx (y := (⟨"com/example/decorum/decorum/graphics/Rasterizer", "clockwise", "([D)[D"⟩ : MethodName)) hown (mvT hZ (hw _ (List.mem_of_getElem? (i := 5) rfl))) (mvT hZ (hw _ (List.mem_of_getElem? (i := 6) rfl))) (mvT hZ (hw _ (List.mem_of_getElem? (i := 7) rfl))) (mvT hZ (hw _ (List.mem_of_getElem? (i := 8) rfl))) (by decide) (backOf (W := 0) (rmC4 l Z a0 hw [] b7 kk7 da0 dq0 da1 dq1 da2 dq2 da3 dq3 xda0 xdq0 xda1 xdq1 xda2 xdq2 xda3 xdq3 T9.heap n0 Z9 ((V7.keep K8 nin0).keep K9 nin0) Dda0 Ddq0 Dda1 Ddq1 Dda2 Ddq2 Dda3 Ddq3 hB) hZ (hw _ (List.mem_of_getElem? (i := 8) rfl)) (hw _ (List.mem_of_getElem? (i := 7) rfl)) (by decide) (by decide)) (g := (mkF m 273 #[.val (.int u0), .val (.int u1), .val (.int u2), .val (.int u3), .val (.int u4), .val (.int nk0), .val (.int nk), .val (.long lx0), .second, .val (.long ly0), .second, .val (.long lx1), .second, .val (.long ly1), .second, .val (.long lx2), .second, .val (.long ly2), .second, .val (.long lx3), .second, .val (.long ly3), .second, .val (.ref b7), .val (.ref b8), .val (.ref b9), .val (.long c26), .second, .val (.long c28), .second, .val (.long c30), .second, .val (.long c32), .second, .val (.long c34), .second, .val (.long (((c26 + c28) + c32) + c34)), .second, .unset, .unset] [(.ref b7)])) rfl (by rw [hml]; rfl) (argsL := [(.ref b7)]) (rest := []) (lenOf pd_1 rfl) rfl (by show 2 * 0 + _ ≤ _; exact Nat.le_of_eq rfl) (hb hby at_273) (fun _ _ => ⟨rfl, rfl, (by decide : 3 + 0 ≤ _), (by decide : 24 + 0 ≤ _)⟩)
  dsimp only [Pt.U, Pt.locs, Pt.cells, Pt.slots] at X11 l11 y11 z11 st11 hQ11
  replace y11 : k11 = 3 := y11
  replace z11 : n11 = 24 := z11
  rw [y11, z11] at X11
  obtain ⟨rfl, N11q, e11⟩ := hQ11
  have N11 : Fr n0 L11 := l11 ▸ Fr.app N9 N11q
  obtain ⟨_, _, ⟨T12, L12, k12, n12⟩, -, X12, ⟨Lc12, hQ12, l12, y12, z12⟩, st12⟩ := Jvm.LawKit.callS X11 hx (y := (⟨"com/example/decorum/decorum/graphics/RasterizerClockwisePinLaw", "same", "([D[D)Z"⟩ : MethodName)) hown (mvT hZ (hw _ (List.mem_of_getElem? (i := 9) rfl))) (mvT hZ (hw _ (List.mem_of_getElem? (i := 10) rfl))) (mvT hZ (hw _ (List.mem_of_getElem? (i := 2) rfl))) (mvT hZ (hw _ (List.mem_of_getElem? (i := 11) rfl))) (by decide) (backOf (W := 0) (rmS4 l Z a0 hw [] b7 b8 kk7 kk8 da0 dq0 da1 dq1 da2 dq2 da3 dq3 T9.heap n0 Z9 ((V7.keep K8 nin0).keep K9 nin0) (V8.keep K9 nin0) Dda0.nn Ddq0.nn Dda1.nn Ddq1.nn Dda2.nn Ddq2.nn Dda3.nn Ddq3.nn) hZ (hw _ (List.mem_of_getElem? (i := 11) rfl)) (hw _ (List.mem_of_getElem? (i := 2) rfl)) (by decide) (by decide)) (g := (mkF m 282 #[.val (.int u0), .val (.int u1), .val (.int u2), .val (.int u3), .val (.int u4), .val (.int nk0), .val (.int nk), .val (.long lx0), .second, .val (.long ly0), .second, .val (.long lx1), .second, .val (.long ly1), .second, .val (.long lx2), .second, .val (.long ly2), .second, .val (.long lx3), .second, .val (.long ly3), .second, .val (.ref b7), .val (.ref b8), .val (.ref b9), .val (.long c26), .second, .val (.long c28), .second, .val (.long c30), .second, .val (.long c32), .second, .val (.long c34), .second, .val (.long (((c26 + c28) + c32) + c34)), .second, .val (.ref b7), .unset] [(.ref b8), (.ref b7)])) rfl (by rw [hml]; rfl) (argsL := [(.ref b7), (.ref b8)]) (rest := []) (lenOf pd_2 rfl) rfl (by show 2 * 0 + _ ≤ _; exact Nat.le_of_eq rfl) (hb hby at_282) (fun _ _ => ⟨rfl, e11, (by decide : 3 + 0 ≤ _), (by decide : 24 + 0 ≤ _)⟩)
  dsimp only [Pt.U, Pt.locs, Pt.cells, Pt.slots] at X12 l12 y12 z12 st12 hQ12
  replace y12 : k12 = 3 := y12
  replace z12 : n12 = 24 := z12
  rw [y12, z12] at X12
  obtain ⟨rfl, N12q, e12⟩ := hQ12
  have N12 : Fr n0 L12 := l12 ▸ Fr.app N11 N12q
  obtain ⟨fs, hr, hrun, hended, hW, hsame⟩ := X12.leave (v := some (.int (1 : Int32))) (fun h => by rw [Bd.returns] at h; cases h)
  refine ⟨_, _, pre0 _ ?_, hrun, hended, _, _, rfl, ?_, ⟨_, rfl⟩, hW, hsame.mono (by decide) (by decide)⟩
  · show Steps p.tables e below (s₁.setTop (mkF m 0 #[.val (.int u0), .val (.int u1), .val (.int u2), .val (.int u3), .val (.int u4), .unset, .unset, .unset, .unset, .unset, .unset, .unset, .unset, .unset, .unset, .unset, .unset, .unset, .unset, .unset, .unset, .unset, .unset, .unset, .unset, .unset, .unset, .unset, .unset, .unset, .unset, .unset, .unset, .unset, .unset, .unset, .unset, .unset, .unset, .unset] [])) _
    refine XS.iload X0.here hx rfl (hb hby at_0) rfl ?_
    refine XS.bipush X0.here hx rfl (hb hby at_2) ?_
    show Steps p.tables e below (s₁.setTop (mkF m 4 #[.val (.int u0), .val (.int u1), .val (.int u2), .val (.int u3), .val (.int u4), .unset, .unset, .unset, .unset, .unset, .unset, .unset, .unset, .unset, .unset, .unset, .unset, .unset, .unset, .unset, .unset, .unset, .unset, .unset, .unset, .unset, .unset, .unset, .unset, .unset, .unset, .unset, .unset, .unset, .unset, .unset, .unset, .unset, .unset, .unset] [(.int (7 : Int32)), (.int u4)])) _
    refine XS.iand X0.here hx rfl (hb hby at_4) rfl ?_
    show Steps p.tables e below (s₁.setTop (mkF m 5 #[.val (.int u0), .val (.int u1), .val (.int u2), .val (.int u3), .val (.int u4), .unset, .unset, .unset, .unset, .unset, .unset, .unset, .unset, .unset, .unset, .unset, .unset, .unset, .unset, .unset, .unset, .unset, .unset, .unset, .unset, .unset, .unset, .unset, .unset, .unset, .unset, .unset, .unset, .unset, .unset, .unset, .unset, .unset, .unset, .unset] [(.int (u4 &&& (7 : Int32)))])) _
    refine XS.istore X0.here hx rfl (hb hby at_5) rfl (l' := #[.val (.int u0), .val (.int u1), .val (.int u2), .val (.int u3), .val (.int u4), .val (.int (u4 &&& (7 : Int32))), .unset, .unset, .unset, .unset, .unset, .unset, .unset, .unset, .unset, .unset, .unset, .unset, .unset, .unset, .unset, .unset, .unset, .unset, .unset, .unset, .unset, .unset, .unset, .unset, .unset, .unset, .unset, .unset, .unset, .unset, .unset, .unset, .unset, .unset]) rfl ?_
    refine st1 _ ?_
    refine XS.istore X0.here hx rfl (hb hby at_19) rfl (l' := #[.val (.int u0), .val (.int u1), .val (.int u2), .val (.int u3), .val (.int u4), .val (.int (u4 &&& (7 : Int32))), .val (.int mv1_0), .unset, .unset, .unset, .unset, .unset, .unset, .unset, .unset, .unset, .unset, .unset, .unset, .unset, .unset, .unset, .unset, .unset, .unset, .unset, .unset, .unset, .unset, .unset, .unset, .unset, .unset, .unset, .unset, .unset, .unset, .unset, .unset, .unset]) rfl ?_
    refine XS.iloadN X0.here hx rfl (hb hby at_21) rfl ?_
    refine XS.bipush X0.here hx rfl (hb hby at_22) ?_
    refine XS.ishr X0.here hx rfl (hb hby at_24) rfl ?_
    refine XS.i2l X0.here hx rfl (hb hby at_25) rfl ?_
    refine XS.lstore X0.here hx rfl (hb hby at_26) rfl (l' := #[.val (.int u0), .val (.int u1), .val (.int u2), .val (.int u3), .val (.int u4), .val (.int (u4 &&& (7 : Int32))), .val (.int mv1_0), .val (.long ((u0 >>> ((16 : Int32) &&& 31)).toInt64)), .second, .unset, .unset, .unset, .unset, .unset, .unset, .unset, .unset, .unset, .unset, .unset, .unset, .unset, .unset, .unset, .unset, .unset, .unset, .unset, .unset, .unset, .unset, .unset, .unset, .unset, .unset, .unset, .unset, .unset, .unset, .unset]) rfl ?_
    refine XS.iloadN X0.here hx rfl (hb hby at_28) rfl ?_
    refine XS.i2s X0.here hx rfl (hb hby at_29) rfl ?_
    refine XS.i2l X0.here hx rfl (hb hby at_30) rfl ?_
    refine XS.lstore X0.here hx rfl (hb hby at_31) rfl (l' := #[.val (.int u0), .val (.int u1), .val (.int u2), .val (.int u3), .val (.int u4), .val (.int (u4 &&& (7 : Int32))), .val (.int mv1_0), .val (.long ((u0 >>> ((16 : Int32) &&& 31)).toInt64)), .second, .val (.long ((u0.toInt16.toInt32).toInt64)), .second, .unset, .unset, .unset, .unset, .unset, .unset, .unset, .unset, .unset, .unset, .unset, .unset, .unset, .unset, .unset, .unset, .unset, .unset, .unset, .unset, .unset, .unset, .unset, .unset, .unset, .unset, .unset, .unset, .unset]) rfl ?_
    refine st2 _ ?_
    show Steps p.tables e below (s₁.setTop (mkF m 33 #[.val (.int u0), .val (.int u1), .val (.int u2), .val (.int u3), .val (.int u4), .val (.int (u4 &&& (7 : Int32))), .val (.int mv1_0), .val (.long lx0), .second, .val (.long ly0), .second, .unset, .unset, .unset, .unset, .unset, .unset, .unset, .unset, .unset, .unset, .unset, .unset, .unset, .unset, .unset, .unset, .unset, .unset, .unset, .unset, .unset, .unset, .unset, .unset, .unset, .unset, .unset, .unset, .unset] [])) _
    refine XS.iloadN X0.here hx rfl (hb hby at_33) rfl ?_
    refine XS.bipush X0.here hx rfl (hb hby at_34) ?_
    refine XS.ishr X0.here hx rfl (hb hby at_36) rfl ?_
    refine XS.i2l X0.here hx rfl (hb hby at_37) rfl ?_
    refine XS.lstore X0.here hx rfl (hb hby at_38) rfl (l' := #[.val (.int u0), .val (.int u1), .val (.int u2), .val (.int u3), .val (.int u4), .val (.int (u4 &&& (7 : Int32))), .val (.int mv1_0), .val (.long lx0), .second, .val (.long ly0), .second, .val (.long ((u1 >>> ((16 : Int32) &&& 31)).toInt64)), .second, .unset, .unset, .unset, .unset, .unset, .unset, .unset, .unset, .unset, .unset, .unset, .unset, .unset, .unset, .unset, .unset, .unset, .unset, .unset, .unset, .unset, .unset, .unset, .unset, .unset, .unset, .unset]) rfl ?_
    refine XS.iloadN X0.here hx rfl (hb hby at_40) rfl ?_
    refine XS.i2s X0.here hx rfl (hb hby at_41) rfl ?_
    refine XS.i2l X0.here hx rfl (hb hby at_42) rfl ?_
    refine XS.lstore X0.here hx rfl (hb hby at_43) rfl (l' := #[.val (.int u0), .val (.int u1), .val (.int u2), .val (.int u3), .val (.int u4), .val (.int (u4 &&& (7 : Int32))), .val (.int mv1_0), .val (.long lx0), .second, .val (.long ly0), .second, .val (.long ((u1 >>> ((16 : Int32) &&& 31)).toInt64)), .second, .val (.long ((u1.toInt16.toInt32).toInt64)), .second, .unset, .unset, .unset, .unset, .unset, .unset, .unset, .unset, .unset, .unset, .unset, .unset, .unset, .unset, .unset, .unset, .unset, .unset, .unset, .unset, .unset, .unset, .unset, .unset, .unset]) rfl ?_
    refine st3 _ ?_
    show Steps p.tables e below (s₁.setTop (mkF m 45 #[.val (.int u0), .val (.int u1), .val (.int u2), .val (.int u3), .val (.int u4), .val (.int (u4 &&& (7 : Int32))), .val (.int mv1_0), .val (.long lx0), .second, .val (.long ly0), .second, .val (.long lx1), .second, .val (.long ly1), .second, .unset, .unset, .unset, .unset, .unset, .unset, .unset, .unset, .unset, .unset, .unset, .unset, .unset, .unset, .unset, .unset, .unset, .unset, .unset, .unset, .unset, .unset, .unset, .unset, .unset] [])) _
    refine XS.iloadN X0.here hx rfl (hb hby at_45) rfl ?_
    refine XS.bipush X0.here hx rfl (hb hby at_46) ?_
    refine XS.ishr X0.here hx rfl (hb hby at_48) rfl ?_
    refine XS.i2l X0.here hx rfl (hb hby at_49) rfl ?_
    refine XS.lstore X0.here hx rfl (hb hby at_50) rfl (l' := #[.val (.int u0), .val (.int u1), .val (.int u2), .val (.int u3), .val (.int u4), .val (.int (u4 &&& (7 : Int32))), .val (.int mv1_0), .val (.long lx0), .second, .val (.long ly0), .second, .val (.long lx1), .second, .val (.long ly1), .second, .val (.long ((u2 >>> ((16 : Int32) &&& 31)).toInt64)), .second, .unset, .unset, .unset, .unset, .unset, .unset, .unset, .unset, .unset, .unset, .unset, .unset, .unset, .unset, .unset, .unset, .unset, .unset, .unset, .unset, .unset, .unset, .unset]) rfl ?_
    refine XS.iloadN X0.here hx rfl (hb hby at_52) rfl ?_
    refine XS.i2s X0.here hx rfl (hb hby at_53) rfl ?_
    refine XS.i2l X0.here hx rfl (hb hby at_54) rfl ?_
    refine XS.lstore X0.here hx rfl (hb hby at_55) rfl (l' := #[.val (.int u0), .val (.int u1), .val (.int u2), .val (.int u3), .val (.int u4), .val (.int (u4 &&& (7 : Int32))), .val (.int mv1_0), .val (.long lx0), .second, .val (.long ly0), .second, .val (.long lx1), .second, .val (.long ly1), .second, .val (.long ((u2 >>> ((16 : Int32) &&& 31)).toInt64)), .second, .val (.long ((u2.toInt16.toInt32).toInt64)), .second, .unset, .unset, .unset, .unset, .unset, .unset, .unset, .unset, .unset, .unset, .unset, .unset, .unset, .unset, .unset, .unset, .unset, .unset, .unset, .unset, .unset]) rfl ?_
    refine st4 _ ?_
    show Steps p.tables e below (s₁.setTop (mkF m 57 #[.val (.int u0), .val (.int u1), .val (.int u2), .val (.int u3), .val (.int u4), .val (.int (u4 &&& (7 : Int32))), .val (.int mv1_0), .val (.long lx0), .second, .val (.long ly0), .second, .val (.long lx1), .second, .val (.long ly1), .second, .val (.long lx2), .second, .val (.long ly2), .second, .unset, .unset, .unset, .unset, .unset, .unset, .unset, .unset, .unset, .unset, .unset, .unset, .unset, .unset, .unset, .unset, .unset, .unset, .unset, .unset, .unset] [])) _
    refine XS.iloadN X0.here hx rfl (hb hby at_57) rfl ?_
    refine XS.bipush X0.here hx rfl (hb hby at_58) ?_
    refine XS.ishr X0.here hx rfl (hb hby at_60) rfl ?_
    refine XS.i2l X0.here hx rfl (hb hby at_61) rfl ?_
    refine XS.lstore X0.here hx rfl (hb hby at_62) rfl (l' := #[.val (.int u0), .val (.int u1), .val (.int u2), .val (.int u3), .val (.int u4), .val (.int (u4 &&& (7 : Int32))), .val (.int mv1_0), .val (.long lx0), .second, .val (.long ly0), .second, .val (.long lx1), .second, .val (.long ly1), .second, .val (.long lx2), .second, .val (.long ly2), .second, .val (.long ((u3 >>> ((16 : Int32) &&& 31)).toInt64)), .second, .unset, .unset, .unset, .unset, .unset, .unset, .unset, .unset, .unset, .unset, .unset, .unset, .unset, .unset, .unset, .unset, .unset, .unset, .unset]) rfl ?_
    refine XS.iloadN X0.here hx rfl (hb hby at_64) rfl ?_
    refine XS.i2s X0.here hx rfl (hb hby at_65) rfl ?_
    refine XS.i2l X0.here hx rfl (hb hby at_66) rfl ?_
    refine XS.lstore X0.here hx rfl (hb hby at_67) rfl (l' := #[.val (.int u0), .val (.int u1), .val (.int u2), .val (.int u3), .val (.int u4), .val (.int (u4 &&& (7 : Int32))), .val (.int mv1_0), .val (.long lx0), .second, .val (.long ly0), .second, .val (.long lx1), .second, .val (.long ly1), .second, .val (.long lx2), .second, .val (.long ly2), .second, .val (.long ((u3 >>> ((16 : Int32) &&& 31)).toInt64)), .second, .val (.long ((u3.toInt16.toInt32).toInt64)), .second, .unset, .unset, .unset, .unset, .unset, .unset, .unset, .unset, .unset, .unset, .unset, .unset, .unset, .unset, .unset, .unset, .unset]) rfl ?_
    refine st5 _ ?_
    refine st6 _ ?_
    show Steps p.tables e below (s₁.setTop (mkF m 69 #[.val (.int u0), .val (.int u1), .val (.int u2), .val (.int u3), .val (.int u4), .val (.int nk0), .val (.int nk), .val (.long lx0), .second, .val (.long ly0), .second, .val (.long lx1), .second, .val (.long ly1), .second, .val (.long lx2), .second, .val (.long ly2), .second, .val (.long lx3), .second, .val (.long ly3), .second, .unset, .unset, .unset, .unset, .unset, .unset, .unset, .unset, .unset, .unset, .unset, .unset, .unset, .unset, .unset, .unset, .unset] [])) _
    refine XS.iload X0.here hx rfl (hb hby at_69) rfl ?_
    refine XS.lload X0.here hx rfl (hb hby at_71) rfl ?_
    refine XS.lload X0.here hx rfl (hb hby at_73) rfl ?_
    refine XS.lload X0.here hx rfl (hb hby at_75) rfl ?_
    refine XS.lload X0.here hx rfl (hb hby at_77) rfl ?_
    refine XS.lload X0.here hx rfl (hb hby at_79) rfl ?_
    refine XS.lload X0.here hx rfl (hb hby at_81) rfl ?_
    refine XS.lload X0.here hx rfl (hb hby at_83) rfl ?_
    refine XS.lload X0.here hx rfl (hb hby at_85) rfl ?_
    refine st7 _ ?_
    show Steps p.tables e below (T7.setTop (mkF m 90 #[.val (.int u0), .val (.int u1), .val (.int u2), .val (.int u3), .val (.int u4), .val (.int nk0), .val (.int nk), .val (.long lx0), .second, .val (.long ly0), .second, .val (.long lx1), .second, .val (.long ly1), .second, .val (.long lx2), .second, .val (.long ly2), .second, .val (.long lx3), .second, .val (.long ly3), .second, .unset, .unset, .unset, .unset, .unset, .unset, .unset, .unset, .unset, .unset, .unset, .unset, .unset, .unset, .unset, .unset, .unset] [(.ref b7)])) _
    refine XS.astore X7.here hx rfl (hb hby at_90) rfl rfl (l' := #[.val (.int u0), .val (.int u1), .val (.int u2), .val (.int u3), .val (.int u4), .val (.int nk0), .val (.int nk), .val (.long lx0), .second, .val (.long ly0), .second, .val (.long lx1), .second, .val (.long ly1), .second, .val (.long lx2), .second, .val (.long ly2), .second, .val (.long lx3), .second, .val (.long ly3), .second, .val (.ref b7), .unset, .unset, .unset, .unset, .unset, .unset, .unset, .unset, .unset, .unset, .unset, .unset, .unset, .unset, .unset, .unset]) rfl ?_
    refine XS.iload X7.here hx rfl (hb hby at_92) rfl ?_
    refine XS.lload X7.here hx rfl (hb hby at_94) rfl ?_
    refine XS.lload X7.here hx rfl (hb hby at_96) rfl ?_
    refine XS.lload X7.here hx rfl (hb hby at_98) rfl ?_
    refine XS.lload X7.here hx rfl (hb hby at_100) rfl ?_
    refine XS.lload X7.here hx rfl (hb hby at_102) rfl ?_
    refine XS.lload X7.here hx rfl (hb hby at_104) rfl ?_
    refine XS.lload X7.here hx rfl (hb hby at_106) rfl ?_
    refine XS.lload X7.here hx rfl (hb hby at_108) rfl ?_
    refine st8 _ ?_
    show Steps p.tables e below (T8.setTop (mkF m 113 #[.val (.int u0), .val (.int u1), .val (.int u2), .val (.int u3), .val (.int u4), .val (.int nk0), .val (.int nk), .val (.long lx0), .second, .val (.long ly0), .second, .val (.long lx1), .second, .val (.long ly1), .second, .val (.long lx2), .second, .val (.long ly2), .second, .val (.long lx3), .second, .val (.long ly3), .second, .val (.ref b7), .unset, .unset, .unset, .unset, .unset, .unset, .unset, .unset, .unset, .unset, .unset, .unset, .unset, .unset, .unset, .unset] [(.ref b8)])) _
    refine XS.astore X8.here hx rfl (hb hby at_113) rfl rfl (l' := #[.val (.int u0), .val (.int u1), .val (.int u2), .val (.int u3), .val (.int u4), .val (.int nk0), .val (.int nk), .val (.long lx0), .second, .val (.long ly0), .second, .val (.long lx1), .second, .val (.long ly1), .second, .val (.long lx2), .second, .val (.long ly2), .second, .val (.long lx3), .second, .val (.long ly3), .second, .val (.ref b7), .val (.ref b8), .unset, .unset, .unset, .unset, .unset, .unset, .unset, .unset, .unset, .unset, .unset, .unset, .unset, .unset, .unset]) rfl ?_
    refine XS.iload X8.here hx rfl (hb hby at_115) rfl ?_
    refine XS.iconst X8.here hx rfl (hb hby at_117) ?_
    refine XS.icmpNo X8.here hx rfl (hb hby at_118) rfl (teq hnk).2 ?_
    refine XS.iconst X8.here hx rfl (hb hby at_121) ?_
    refine XS.lload X8.here hx rfl (hb hby at_122) rfl ?_
    refine XS.lload X8.here hx rfl (hb hby at_124) rfl ?_
    refine XS.lload X8.here hx rfl (hb hby at_126) rfl ?_
    refine XS.lload X8.here hx rfl (hb hby at_128) rfl ?_
    refine XS.lload X8.here hx rfl (hb hby at_130) rfl ?_
    refine XS.lload X8.here hx rfl (hb hby at_132) rfl ?_
    refine XS.lload X8.here hx rfl (hb hby at_134) rfl ?_
    refine XS.lload X8.here hx rfl (hb hby at_136) rfl ?_
    refine st9 _ ?_
    show Steps p.tables e below (T9.setTop (mkF m 141 #[.val (.int u0), .val (.int u1), .val (.int u2), .val (.int u3), .val (.int u4), .val (.int nk0), .val (.int nk), .val (.long lx0), .second, .val (.long ly0), .second, .val (.long lx1), .second, .val (.long ly1), .second, .val (.long lx2), .second, .val (.long ly2), .second, .val (.long lx3), .second, .val (.long ly3), .second, .val (.ref b7), .val (.ref b8), .unset, .unset, .unset, .unset, .unset, .unset, .unset, .unset, .unset, .unset, .unset, .unset, .unset, .unset, .unset] [(.ref b9)])) _
    refine XS.goto X9.here hx rfl (pc0 := 141) (pc' := 163) rfl (hb hby at_141) (by decide) (by decide) ?_
    refine XS.astore X9.here hx rfl (hb hby at_163) rfl rfl (l' := #[.val (.int u0), .val (.int u1), .val (.int u2), .val (.int u3), .val (.int u4), .val (.int nk0), .val (.int nk), .val (.long lx0), .second, .val (.long ly0), .second, .val (.long lx1), .second, .val (.long ly1), .second, .val (.long lx2), .second, .val (.long ly2), .second, .val (.long lx3), .second, .val (.long ly3), .second, .val (.ref b7), .val (.ref b8), .val (.ref b9), .unset, .unset, .unset, .unset, .unset, .unset, .unset, .unset, .unset, .unset, .unset, .unset, .unset, .unset]) rfl ?_
    refine XS.lload X9.here hx rfl (hb hby at_165) rfl ?_
    refine XS.lload X9.here hx rfl (hb hby at_167) rfl ?_
    refine XS.lmul X9.here hx rfl (hb hby at_169) rfl ?_
    refine XS.lload X9.here hx rfl (hb hby at_170) rfl ?_
    refine XS.lload X9.here hx rfl (hb hby at_172) rfl ?_
    refine XS.lmul X9.here hx rfl (hb hby at_174) rfl ?_
    refine XS.lsub X9.here hx rfl (hb hby at_175) rfl ?_
    refine XS.lstore X9.here hx rfl (hb hby at_176) rfl (l' := #[.val (.int u0), .val (.int u1), .val (.int u2), .val (.int u3), .val (.int u4), .val (.int nk0), .val (.int nk), .val (.long lx0), .second, .val (.long ly0), .second, .val (.long lx1), .second, .val (.long ly1), .second, .val (.long lx2), .second, .val (.long ly2), .second, .val (.long lx3), .second, .val (.long ly3), .second, .val (.ref b7), .val (.ref b8), .val (.ref b9), .val (.long ((lx0 * ly1) - (lx1 * ly0))), .second, .unset, .unset, .unset, .unset, .unset, .unset, .unset, .unset, .unset, .unset, .unset, .unset]) rfl ?_
    refine XS.lload X9.here hx rfl (hb hby at_178) rfl ?_
    refine XS.lload X9.here hx rfl (hb hby at_180) rfl ?_
    refine XS.lmul X9.here hx rfl (hb hby at_182) rfl ?_
    refine XS.lload X9.here hx rfl (hb hby at_183) rfl ?_
    refine XS.lload X9.here hx rfl (hb hby at_185) rfl ?_
    refine XS.lmul X9.here hx rfl (hb hby at_187) rfl ?_
    refine XS.lsub X9.here hx rfl (hb hby at_188) rfl ?_
    refine XS.lstore X9.here hx rfl (hb hby at_189) rfl (l' := #[.val (.int u0), .val (.int u1), .val (.int u2), .val (.int u3), .val (.int u4), .val (.int nk0), .val (.int nk), .val (.long lx0), .second, .val (.long ly0), .second, .val (.long lx1), .second, .val (.long ly1), .second, .val (.long lx2), .second, .val (.long ly2), .second, .val (.long lx3), .second, .val (.long ly3), .second, .val (.ref b7), .val (.ref b8), .val (.ref b9), .val (.long ((lx0 * ly1) - (lx1 * ly0))), .second, .val (.long ((lx1 * ly2) - (lx2 * ly1))), .second, .unset, .unset, .unset, .unset, .unset, .unset, .unset, .unset, .unset, .unset]) rfl ?_
    refine XS.lload X9.here hx rfl (hb hby at_191) rfl ?_
    refine XS.lload X9.here hx rfl (hb hby at_193) rfl ?_
    refine XS.lmul X9.here hx rfl (hb hby at_195) rfl ?_
    refine XS.lload X9.here hx rfl (hb hby at_196) rfl ?_
    refine XS.lload X9.here hx rfl (hb hby at_198) rfl ?_
    refine XS.lmul X9.here hx rfl (hb hby at_200) rfl ?_
    refine XS.lsub X9.here hx rfl (hb hby at_201) rfl ?_
    show Steps p.tables e below (T9.setTop (mkF m 202 #[.val (.int u0), .val (.int u1), .val (.int u2), .val (.int u3), .val (.int u4), .val (.int nk0), .val (.int nk), .val (.long lx0), .second, .val (.long ly0), .second, .val (.long lx1), .second, .val (.long ly1), .second, .val (.long lx2), .second, .val (.long ly2), .second, .val (.long lx3), .second, .val (.long ly3), .second, .val (.ref b7), .val (.ref b8), .val (.ref b9), .val (.long ((lx0 * ly1) - (lx1 * ly0))), .second, .val (.long ((lx1 * ly2) - (lx2 * ly1))), .second, .unset, .unset, .unset, .unset, .unset, .unset, .unset, .unset, .unset, .unset] [(.long ((lx2 * ly0) - (lx0 * ly2)))])) _
    refine XS.lstore X9.here hx rfl (hb hby at_202) rfl (l' := #[.val (.int u0), .val (.int u1), .val (.int u2), .val (.int u3), .val (.int u4), .val (.int nk0), .val (.int nk), .val (.long lx0), .second, .val (.long ly0), .second, .val (.long lx1), .second, .val (.long ly1), .second, .val (.long lx2), .second, .val (.long ly2), .second, .val (.long lx3), .second, .val (.long ly3), .second, .val (.ref b7), .val (.ref b8), .val (.ref b9), .val (.long ((lx0 * ly1) - (lx1 * ly0))), .second, .val (.long ((lx1 * ly2) - (lx2 * ly1))), .second, .val (.long ((lx2 * ly0) - (lx0 * ly2))), .second, .unset, .unset, .unset, .unset, .unset, .unset, .unset, .unset]) rfl ?_
    refine XS.lload X9.here hx rfl (hb hby at_204) rfl ?_
    refine XS.lload X9.here hx rfl (hb hby at_206) rfl ?_
    refine XS.lmul X9.here hx rfl (hb hby at_208) rfl ?_
    refine XS.lload X9.here hx rfl (hb hby at_209) rfl ?_
    refine XS.lload X9.here hx rfl (hb hby at_211) rfl ?_
    refine XS.lmul X9.here hx rfl (hb hby at_213) rfl ?_
    refine XS.lsub X9.here hx rfl (hb hby at_214) rfl ?_
    refine XS.lstore X9.here hx rfl (hb hby at_215) rfl (l' := #[.val (.int u0), .val (.int u1), .val (.int u2), .val (.int u3), .val (.int u4), .val (.int nk0), .val (.int nk), .val (.long lx0), .second, .val (.long ly0), .second, .val (.long lx1), .second, .val (.long ly1), .second, .val (.long lx2), .second, .val (.long ly2), .second, .val (.long lx3), .second, .val (.long ly3), .second, .val (.ref b7), .val (.ref b8), .val (.ref b9), .val (.long ((lx0 * ly1) - (lx1 * ly0))), .second, .val (.long ((lx1 * ly2) - (lx2 * ly1))), .second, .val (.long ((lx2 * ly0) - (lx0 * ly2))), .second, .val (.long ((lx2 * ly3) - (lx3 * ly2))), .second, .unset, .unset, .unset, .unset, .unset, .unset]) rfl ?_
    refine XS.lload X9.here hx rfl (hb hby at_217) rfl ?_
    refine XS.lload X9.here hx rfl (hb hby at_219) rfl ?_
    refine XS.lmul X9.here hx rfl (hb hby at_221) rfl ?_
    refine XS.lload X9.here hx rfl (hb hby at_222) rfl ?_
    refine XS.lload X9.here hx rfl (hb hby at_224) rfl ?_
    refine XS.lmul X9.here hx rfl (hb hby at_226) rfl ?_
    refine XS.lsub X9.here hx rfl (hb hby at_227) rfl ?_
    refine XS.lstore X9.here hx rfl (hb hby at_228) rfl (l' := #[.val (.int u0), .val (.int u1), .val (.int u2), .val (.int u3), .val (.int u4), .val (.int nk0), .val (.int nk), .val (.long lx0), .second, .val (.long ly0), .second, .val (.long lx1), .second, .val (.long ly1), .second, .val (.long lx2), .second, .val (.long ly2), .second, .val (.long lx3), .second, .val (.long ly3), .second, .val (.ref b7), .val (.ref b8), .val (.ref b9), .val (.long ((lx0 * ly1) - (lx1 * ly0))), .second, .val (.long ((lx1 * ly2) - (lx2 * ly1))), .second, .val (.long ((lx2 * ly0) - (lx0 * ly2))), .second, .val (.long ((lx2 * ly3) - (lx3 * ly2))), .second, .val (.long ((lx3 * ly0) - (lx0 * ly3))), .second, .unset, .unset, .unset, .unset]) rfl ?_
    refine st10 _ ?_
    show Steps p.tables e below (T9.setTop (mkF m 230 #[.val (.int u0), .val (.int u1), .val (.int u2), .val (.int u3), .val (.int u4), .val (.int nk0), .val (.int nk), .val (.long lx0), .second, .val (.long ly0), .second, .val (.long lx1), .second, .val (.long ly1), .second, .val (.long lx2), .second, .val (.long ly2), .second, .val (.long lx3), .second, .val (.long ly3), .second, .val (.ref b7), .val (.ref b8), .val (.ref b9), .val (.long c26), .second, .val (.long c28), .second, .val (.long c30), .second, .val (.long c32), .second, .val (.long c34), .second, .unset, .unset, .unset, .unset] [])) _
    refine XS.lconst X9.here hx rfl (hb hby at_230) ?_
    refine XS.lstore X9.here hx rfl (hb hby at_231) rfl (l' := #[.val (.int u0), .val (.int u1), .val (.int u2), .val (.int u3), .val (.int u4), .val (.int nk0), .val (.int nk), .val (.long lx0), .second, .val (.long ly0), .second, .val (.long lx1), .second, .val (.long ly1), .second, .val (.long lx2), .second, .val (.long ly2), .second, .val (.long lx3), .second, .val (.long ly3), .second, .val (.ref b7), .val (.ref b8), .val (.ref b9), .val (.long c26), .second, .val (.long c28), .second, .val (.long c30), .second, .val (.long c32), .second, .val (.long c34), .second, .val (.long (0 : Int64)), .second, .unset, .unset]) rfl ?_
    refine XS.iload X9.here hx rfl (hb hby at_233) rfl ?_
    refine XS.iconst X9.here hx rfl (hb hby at_235) ?_
    refine XS.icmpYes X9.here hx rfl (pc0 := 236) (pc' := 252) rfl (hb hby at_236) rfl (feq (by rw [hnk]; decide)).2 (by decide) (by decide) ?_
    refine XS.iload X9.here hx rfl (hb hby at_252) rfl ?_
    refine XS.iconst X9.here hx rfl (hb hby at_254) ?_
    refine XS.icmpNo X9.here hx rfl (hb hby at_255) rfl (teq hnk).2 ?_
    refine XS.lload X9.here hx rfl (hb hby at_258) rfl ?_
    refine XS.lload X9.here hx rfl (hb hby at_260) rfl ?_
    refine XS.ladd X9.here hx rfl (hb hby at_262) rfl ?_
    refine XS.lload X9.here hx rfl (hb hby at_263) rfl ?_
    refine XS.ladd X9.here hx rfl (hb hby at_265) rfl ?_
    refine XS.lload X9.here hx rfl (hb hby at_266) rfl ?_
    refine XS.ladd X9.here hx rfl (hb hby at_268) rfl ?_
    refine XS.lstore X9.here hx rfl (hb hby at_269) rfl (l' := #[.val (.int u0), .val (.int u1), .val (.int u2), .val (.int u3), .val (.int u4), .val (.int nk0), .val (.int nk), .val (.long lx0), .second, .val (.long ly0), .second, .val (.long lx1), .second, .val (.long ly1), .second, .val (.long lx2), .second, .val (.long ly2), .second, .val (.long lx3), .second, .val (.long ly3), .second, .val (.ref b7), .val (.ref b8), .val (.ref b9), .val (.long c26), .second, .val (.long c28), .second, .val (.long c30), .second, .val (.long c32), .second, .val (.long c34), .second, .val (.long (((c26 + c28) + c32) + c34)), .second, .unset, .unset]) rfl ?_
    refine XS.aload X9.here hx rfl (hb hby at_271) rfl rfl ?_
    refine st11 _ ?_
    show Steps p.tables e below (T11.setTop (mkF m 276 #[.val (.int u0), .val (.int u1), .val (.int u2), .val (.int u3), .val (.int u4), .val (.int nk0), .val (.int nk), .val (.long lx0), .second, .val (.long ly0), .second, .val (.long lx1), .second, .val (.long ly1), .second, .val (.long lx2), .second, .val (.long ly2), .second, .val (.long lx3), .second, .val (.long ly3), .second, .val (.ref b7), .val (.ref b8), .val (.ref b9), .val (.long c26), .second, .val (.long c28), .second, .val (.long c30), .second, .val (.long c32), .second, .val (.long c34), .second, .val (.long (((c26 + c28) + c32) + c34)), .second, .unset, .unset] [(.ref b7)])) _
    refine XS.astore X11.here hx rfl (hb hby at_276) rfl rfl (l' := #[.val (.int u0), .val (.int u1), .val (.int u2), .val (.int u3), .val (.int u4), .val (.int nk0), .val (.int nk), .val (.long lx0), .second, .val (.long ly0), .second, .val (.long lx1), .second, .val (.long ly1), .second, .val (.long lx2), .second, .val (.long ly2), .second, .val (.long lx3), .second, .val (.long ly3), .second, .val (.ref b7), .val (.ref b8), .val (.ref b9), .val (.long c26), .second, .val (.long c28), .second, .val (.long c30), .second, .val (.long c32), .second, .val (.long c34), .second, .val (.long (((c26 + c28) + c32) + c34)), .second, .val (.ref b7), .unset]) rfl ?_
    refine XS.aload X11.here hx rfl (hb hby at_278) rfl rfl ?_
    refine XS.aload X11.here hx rfl (hb hby at_280) rfl rfl ?_
    refine st12 _ ?_
    show Steps p.tables e below (T12.setTop (mkF m 285 #[.val (.int u0), .val (.int u1), .val (.int u2), .val (.int u3), .val (.int u4), .val (.int nk0), .val (.int nk), .val (.long lx0), .second, .val (.long ly0), .second, .val (.long lx1), .second, .val (.long ly1), .second, .val (.long lx2), .second, .val (.long ly2), .second, .val (.long lx3), .second, .val (.long ly3), .second, .val (.ref b7), .val (.ref b8), .val (.ref b9), .val (.long c26), .second, .val (.long c28), .second, .val (.long c30), .second, .val (.long c32), .second, .val (.long c34), .second, .val (.long (((c26 + c28) + c32) + c34)), .second, .val (.ref b7), .unset] [(.int (1 : Int32))])) _
    refine XS.istore X12.here hx rfl (hb hby at_285) rfl (l' := #[.val (.int u0), .val (.int u1), .val (.int u2), .val (.int u3), .val (.int u4), .val (.int nk0), .val (.int nk), .val (.long lx0), .second, .val (.long ly0), .second, .val (.long lx1), .second, .val (.long ly1), .second, .val (.long lx2), .second, .val (.long ly2), .second, .val (.long lx3), .second, .val (.long ly3), .second, .val (.ref b7), .val (.ref b8), .val (.ref b9), .val (.long c26), .second, .val (.long c28), .second, .val (.long c30), .second, .val (.long c32), .second, .val (.long c34), .second, .val (.long (((c26 + c28) + c32) + c34)), .second, .val (.ref b7), .val (.int (1 : Int32))]) rfl ?_
    refine XS.lload X12.here hx rfl (hb hby at_287) rfl ?_
    refine XS.lconst X12.here hx rfl (hb hby at_289) ?_
    refine XS.lcmp X12.here hx rfl (hb hby at_290) rfl ?_
    refine XS.ifNo X12.here hx rfl (hb hby at_291) rfl ((if0 _ _).trans (flt (by rw [ec26, ec28, ec32, ec34]; exact hA)).1) ?_
    refine XS.aload X12.here hx rfl (hb hby at_294) rfl rfl ?_
    refine XS.aload X12.here hx rfl (hb hby at_296) rfl rfl ?_
    show Steps p.tables e below (T12.setTop (mkF m 298 #[.val (.int u0), .val (.int u1), .val (.int u2), .val (.int u3), .val (.int u4), .val (.int nk0), .val (.int nk), .val (.long lx0), .second, .val (.long ly0), .second, .val (.long lx1), .second, .val (.long ly1), .second, .val (.long lx2), .second, .val (.long ly2), .second, .val (.long lx3), .second, .val (.long ly3), .second, .val (.ref b7), .val (.ref b8), .val (.ref b9), .val (.long c26), .second, .val (.long c28), .second, .val (.long c30), .second, .val (.long c32), .second, .val (.long c34), .second, .val (.long (((c26 + c28) + c32) + c34)), .second, .val (.ref b7), .val (.int (1 : Int32))] [(.ref b7), (.ref b7)])) _
    refine Jvm.RoadKit.acmp (g := (mkF m 298 #[.val (.int u0), .val (.int u1), .val (.int u2), .val (.int u3), .val (.int u4), .val (.int nk0), .val (.int nk), .val (.long lx0), .second, .val (.long ly0), .second, .val (.long lx1), .second, .val (.long ly1), .second, .val (.long lx2), .second, .val (.long ly2), .second, .val (.long lx3), .second, .val (.long ly3), .second, .val (.ref b7), .val (.ref b8), .val (.ref b9), .val (.long c26), .second, .val (.long c28), .second, .val (.long c30), .second, .val (.long c32), .second, .val (.long c34), .second, .val (.long (((c26 + c28) + c32) + c34)), .second, .val (.ref b7), .val (.int (1 : Int32))] [(.ref b7), (.ref b7)])) X12 hx rfl rfl rfl (pc0 := 298) (pc' := 301) (same := true) rfl (hb hby at_298) rfl (decide_eq_true rfl) (by decide) (by decide) ?_
    show Steps p.tables e below (T12.setTop (mkF m 301 #[.val (.int u0), .val (.int u1), .val (.int u2), .val (.int u3), .val (.int u4), .val (.int nk0), .val (.int nk), .val (.long lx0), .second, .val (.long ly0), .second, .val (.long lx1), .second, .val (.long ly1), .second, .val (.long lx2), .second, .val (.long ly2), .second, .val (.long lx3), .second, .val (.long ly3), .second, .val (.ref b7), .val (.ref b8), .val (.ref b9), .val (.long c26), .second, .val (.long c28), .second, .val (.long c30), .second, .val (.long c32), .second, .val (.long c34), .second, .val (.long (((c26 + c28) + c32) + c34)), .second, .val (.ref b7), .val (.int (1 : Int32))] [])) _
    refine XS.iload X12.here hx rfl (hb hby at_301) rfl ?_
    refine XS.ifNo X12.here hx rfl (hb hby at_303) rfl ((if0 _ _).trans (feq (by decide)).1) ?_
    refine XS.iconst X12.here hx rfl (hb hby at_306) ?_
    refine XS.goto X12.here hx rfl (pc0 := 307) (pc' := 311) rfl (hb hby at_307) (by decide) (by decide) ?_
    show Steps p.tables e below (T12.setTop (mkF m 311 #[.val (.int u0), .val (.int u1), .val (.int u2), .val (.int u3), .val (.int u4), .val (.int nk0), .val (.int nk), .val (.long lx0), .second, .val (.long ly0), .second, .val (.long lx1), .second, .val (.long ly1), .second, .val (.long lx2), .second, .val (.long ly2), .second, .val (.long lx3), .second, .val (.long ly3), .second, .val (.ref b7), .val (.ref b8), .val (.ref b9), .val (.long c26), .second, .val (.long c28), .second, .val (.long c30), .second, .val (.long c32), .second, .val (.long c34), .second, .val (.long (((c26 + c28) + c32) + c34)), .second, .val (.ref b7), .val (.int (1 : Int32))] [(.int (1 : Int32))])) _
    exact retN X12 hx (t := .boolean) Bd.returns (by simp) (hb hby at_311) hr
  · show QL4 Z u0 u1 u2 u3 u4 h0 n0 _ T12.heap _
    rw [e12]
    exact ⟨rfl, N12⟩
theorem ef_L4n (m : MethodId) (u0 : Int32) (u1 : Int32) (u2 : Int32) (u3 : Int32) (u4 : Int32) : entryFrame m #[(.int u0), (.int u1), (.int u2), (.int u3), (.int u4)] maxLocals = mkF m 0 #[.val (.int u0), .val (.int u1), .val (.int u2), .val (.int u3), .val (.int u4), .unset, .unset, .unset, .unset, .unset, .unset, .unset, .unset, .unset, .unset, .unset, .unset, .unset, .unset, .unset, .unset, .unset, .unset, .unset, .unset, .unset, .unset, .unset, .unset, .unset, .unset, .unset, .unset, .unset, .unset, .unset, .unset, .unset, .unset, .unset] [] := by first | (simp [entryFrame, mkF, argsToLocals, Value.category, maxLocals]; done) | rfl
def QL4n (Z : State) (u0 : Int32) (u1 : Int32) (u2 : Int32) (u3 : Int32) (u4 : Int32) (h0 : Heap) (n0 : Nat) (v : Option Value) (h : Heap) (L : List Loc) : Prop := v = some (.int (1 : Int32)) ∧ Fr n0 L
set_option maxRecDepth 65536 in
set_option maxHeartbeats 40000000 in
theorem rmL4n (l : Launch) (Z : State) (a0 : Array Value) (hw : ∀ d ∈ tables_1, d.before a0 Z = true) (ws : List Jvm.Cond) (u0 : Int32) (u1 : Int32) (u2 : Int32) (u3 : Int32) (u4 : Int32) (h0 : Heap) (n0 : Nat) (Z0 : n0 ≤ h0.size) (hk : (if (4 : Int32) < (u4 &&& (7 : Int32)) then (4 : Int32) else (u4 &&& (7 : Int32))) = (4 : Int32)) (hA : lcmpW (((((((u0 >>> ((16 : Int32) &&& 31)).toInt64) * ((u1.toInt16.toInt32).toInt64)) - (((u1 >>> ((16 : Int32) &&& 31)).toInt64) * ((u0.toInt16.toInt32).toInt64))) + ((((u1 >>> ((16 : Int32) &&& 31)).toInt64) * ((u2.toInt16.toInt32).toInt64)) - (((u2 >>> ((16 : Int32) &&& 31)).toInt64) * ((u1.toInt16.toInt32).toInt64)))) + ((((u2 >>> ((16 : Int32) &&& 31)).toInt64) * ((u3.toInt16.toInt32).toInt64)) - (((u3 >>> ((16 : Int32) &&& 31)).toInt64) * ((u2.toInt16.toInt32).toInt64)))) + ((((u3 >>> ((16 : Int32) &&& 31)).toInt64) * ((u0.toInt16.toInt32).toInt64)) - (((u0 >>> ((16 : Int32) &&& 31)).toInt64) * ((u3.toInt16.toInt32).toInt64)))) (0 : Int64) < 0) :
    MetFree l x (head1 (Jvm.Cond.code x code maxLocals ret :: ws) room_1) (fun a U => a = #[(.int u0), (.int u1), (.int u2), (.int u3), (.int u4)] ∧ Z.Warmed39 U.vm ∧ U.heap = h0) (fun _ _ _ _ _ => True) (fun _ U o U' => ∃ v L, o = .returned v ∧ QL4n Z u0 u1 u2 u3 u4 h0 n0 v U'.heap L ∧ FrameEnd U o U' L room_1.cells room_1.slots) := by
  refine MetFree.of_bodySF (plainFor_of_name pn_com_example_decorum_decorum_graphics_RasterizerClockwisePinLaw) hisR ?_
  intro p e s m args below meth c s₁ Bd hml0 hP hK
  obtain ⟨rfl, hZ, hh⟩ := hP
  have hx := Bd.exec
  have hby := Bd.bytes
  have hml : c.maxLocals = 40 := hml0
  have hown : s.vm.findClass "com/example/decorum/decorum/graphics/RasterizerClockwisePinLaw" = some m.cls := findClass_of_methodNamed Bd.named
  have hnm := (name_of_methodNamed Bd.named Bd.method).1
  have X0 : Stand p l e room_1 s m #[(.int u0), (.int u1), (.int u2), (.int u3), (.int u4)] below meth c s₁ [] 0 0 := Stand.of_body Bd
  have e0 : s₁.heap = h0 := by rw [← hh, Bd.state]; rfl
  have N0 := Fr.nil n0
  have pre0 : ∀ t, Steps p.tables e below (s₁.setTop (mkF m 0 #[.val (.int u0), .val (.int u1), .val (.int u2), .val (.int u3), .val (.int u4), .unset, .unset, .unset, .unset, .unset, .unset, .unset, .unset, .unset, .unset, .unset, .unset, .unset, .unset, .unset, .unset, .unset, .unset, .unset, .unset, .unset, .unset, .unset, .unset, .unset, .unset, .unset, .unset, .unset, .unset, .unset, .unset, .unset, .unset, .unset] [])) t → Steps p.tables e below (s₁.setTop (entryFrame m #[(.int u0), (.int u1), (.int u2), (.int u3), (.int u4)] maxLocals)) t := fun t k => castTop (ef_L4n m u0 u1 u2 u3 u4) k
  obtain ⟨mv1_0, me1_0⟩ : ∃ z : Int32, z = (if (4 : Int32) < (u4 &&& (7 : Int32)) then (4 : Int32) else (u4 &&& (7 : Int32))) := ⟨_, rfl⟩
  have st1 : ∀ target, Steps p.tables e below (s₁.setTop (mkF m 19 #[.val (.int u0), .val (.int u1), .val (.int u2), .val (.int u3), .val (.int u4), .val (.int (u4 &&& (7 : Int32))), .unset, .unset, .unset, .unset, .unset, .unset, .unset, .unset, .unset, .unset, .unset, .unset, .unset, .unset, .unset, .unset, .unset, .unset, .unset, .unset, .unset, .unset, .unset, .unset, .unset, .unset, .unset, .unset, .unset, .unset, .unset, .unset, .unset, .unset] [(.int mv1_0)])) target → Steps p.tables e below (s₁.setTop (mkF m 7 #[.val (.int u0), .val (.int u1), .val (.int u2), .val (.int u3), .val (.int u4), .val (.int (u4 &&& (7 : Int32))), .unset, .unset, .unset, .unset, .unset, .unset, .unset, .unset, .unset, .unset, .unset, .unset, .unset, .unset, .unset, .unset, .unset, .unset, .unset, .unset, .unset, .unset, .unset, .unset, .unset, .unset, .unset, .unset, .unset, .unset, .unset, .unset, .unset, .unset] [])) target := by
    intro target kt
    rw [me1_0] at kt
    by_cases hc10 : (4 : Int32) < (u4 &&& (7 : Int32))
    · simp only [if_pos hc10] at kt
      refine XS.iload X0.here hx rfl (hb hby at_7) rfl ?_
      refine XS.iconst X0.here hx rfl (hb hby at_9) ?_
      refine XS.icmpNo X0.here hx rfl (hb hby at_10) rfl (tlt hc10).2.2.2 ?_
      refine XS.iconst X0.here hx rfl (hb hby at_13) ?_
      refine XS.goto X0.here hx rfl (pc0 := 14) (pc' := 19) rfl (hb hby at_14) (by decide) (by decide) ?_
      exact kt
    · simp only [if_neg hc10] at kt
      refine XS.iload X0.here hx rfl (hb hby at_7) rfl ?_
      refine XS.iconst X0.here hx rfl (hb hby at_9) ?_
      refine XS.icmpYes X0.here hx rfl (pc0 := 10) (pc' := 17) rfl (hb hby at_10) rfl (flt hc10).2.2.2 (by decide) (by decide) ?_
      refine XS.iload X0.here hx rfl (hb hby at_17) rfl ?_
      exact kt
  obtain ⟨lx0, elx0⟩ : ∃ z : Int64, z = ((u0 >>> ((16 : Int32) &&& 31)).toInt64) := ⟨_, rfl⟩
  obtain ⟨ly0, ely0⟩ : ∃ z : Int64, z = ((u0.toInt16.toInt32).toInt64) := ⟨_, rfl⟩
  have st2 : ∀ target, Steps p.tables e below (s₁.setTop (mkF m 33 #[.val (.int u0), .val (.int u1), .val (.int u2), .val (.int u3), .val (.int u4), .val (.int (u4 &&& (7 : Int32))), .val (.int mv1_0), .val (.long lx0), .second, .val (.long ly0), .second, .unset, .unset, .unset, .unset, .unset, .unset, .unset, .unset, .unset, .unset, .unset, .unset, .unset, .unset, .unset, .unset, .unset, .unset, .unset, .unset, .unset, .unset, .unset, .unset, .unset, .unset, .unset, .unset, .unset] [])) target → Steps p.tables e below (s₁.setTop (mkF m 33 #[.val (.int u0), .val (.int u1), .val (.int u2), .val (.int u3), .val (.int u4), .val (.int (u4 &&& (7 : Int32))), .val (.int mv1_0), .val (.long ((u0 >>> ((16 : Int32) &&& 31)).toInt64)), .second, .val (.long ((u0.toInt16.toInt32).toInt64)), .second, .unset, .unset, .unset, .unset, .unset, .unset, .unset, .unset, .unset, .unset, .unset, .unset, .unset, .unset, .unset, .unset, .unset, .unset, .unset, .unset, .unset, .unset, .unset, .unset, .unset, .unset, .unset, .unset, .unset] [])) target := by intro target kt; rw [elx0, ely0] at kt; exact kt
  obtain ⟨lx1, elx1⟩ : ∃ z : Int64, z = ((u1 >>> ((16 : Int32) &&& 31)).toInt64) := ⟨_, rfl⟩
  obtain ⟨ly1, ely1⟩ : ∃ z : Int64, z = ((u1.toInt16.toInt32).toInt64) := ⟨_, rfl⟩
  have st3 : ∀ target, Steps p.tables e below (s₁.setTop (mkF m 45 #[.val (.int u0), .val (.int u1), .val (.int u2), .val (.int u3), .val (.int u4), .val (.int (u4 &&& (7 : Int32))), .val (.int mv1_0), .val (.long lx0), .second, .val (.long ly0), .second, .val (.long lx1), .second, .val (.long ly1), .second, .unset, .unset, .unset, .unset, .unset, .unset, .unset, .unset, .unset, .unset, .unset, .unset, .unset, .unset, .unset, .unset, .unset, .unset, .unset, .unset, .unset, .unset, .unset, .unset, .unset] [])) target → Steps p.tables e below (s₁.setTop (mkF m 45 #[.val (.int u0), .val (.int u1), .val (.int u2), .val (.int u3), .val (.int u4), .val (.int (u4 &&& (7 : Int32))), .val (.int mv1_0), .val (.long lx0), .second, .val (.long ly0), .second, .val (.long ((u1 >>> ((16 : Int32) &&& 31)).toInt64)), .second, .val (.long ((u1.toInt16.toInt32).toInt64)), .second, .unset, .unset, .unset, .unset, .unset, .unset, .unset, .unset, .unset, .unset, .unset, .unset, .unset, .unset, .unset, .unset, .unset, .unset, .unset, .unset, .unset, .unset, .unset, .unset, .unset] [])) target := by intro target kt; rw [elx1, ely1] at kt; exact kt
  obtain ⟨lx2, elx2⟩ : ∃ z : Int64, z = ((u2 >>> ((16 : Int32) &&& 31)).toInt64) := ⟨_, rfl⟩
  obtain ⟨ly2, ely2⟩ : ∃ z : Int64, z = ((u2.toInt16.toInt32).toInt64) := ⟨_, rfl⟩
  have st4 : ∀ target, Steps p.tables e below (s₁.setTop (mkF m 57 #[.val (.int u0), .val (.int u1), .val (.int u2), .val (.int u3), .val (.int u4), .val (.int (u4 &&& (7 : Int32))), .val (.int mv1_0), .val (.long lx0), .second, .val (.long ly0), .second, .val (.long lx1), .second, .val (.long ly1), .second, .val (.long lx2), .second, .val (.long ly2), .second, .unset, .unset, .unset, .unset, .unset, .unset, .unset, .unset, .unset, .unset, .unset, .unset, .unset, .unset, .unset, .unset, .unset, .unset, .unset, .unset, .unset] [])) target → Steps p.tables e below (s₁.setTop (mkF m 57 #[.val (.int u0), .val (.int u1), .val (.int u2), .val (.int u3), .val (.int u4), .val (.int (u4 &&& (7 : Int32))), .val (.int mv1_0), .val (.long lx0), .second, .val (.long ly0), .second, .val (.long lx1), .second, .val (.long ly1), .second, .val (.long ((u2 >>> ((16 : Int32) &&& 31)).toInt64)), .second, .val (.long ((u2.toInt16.toInt32).toInt64)), .second, .unset, .unset, .unset, .unset, .unset, .unset, .unset, .unset, .unset, .unset, .unset, .unset, .unset, .unset, .unset, .unset, .unset, .unset, .unset, .unset, .unset] [])) target := by intro target kt; rw [elx2, ely2] at kt; exact kt
  obtain ⟨lx3, elx3⟩ : ∃ z : Int64, z = ((u3 >>> ((16 : Int32) &&& 31)).toInt64) := ⟨_, rfl⟩
  obtain ⟨ly3, ely3⟩ : ∃ z : Int64, z = ((u3.toInt16.toInt32).toInt64) := ⟨_, rfl⟩
  have st5 : ∀ target, Steps p.tables e below (s₁.setTop (mkF m 69 #[.val (.int u0), .val (.int u1), .val (.int u2), .val (.int u3), .val (.int u4), .val (.int (u4 &&& (7 : Int32))), .val (.int mv1_0), .val (.long lx0), .second, .val (.long ly0), .second, .val (.long lx1), .second, .val (.long ly1), .second, .val (.long lx2), .second, .val (.long ly2), .second, .val (.long lx3), .second, .val (.long ly3), .second, .unset, .unset, .unset, .unset, .unset, .unset, .unset, .unset, .unset, .unset, .unset, .unset, .unset, .unset, .unset, .unset, .unset] [])) target → Steps p.tables e below (s₁.setTop (mkF m 69 #[.val (.int u0), .val (.int u1), .val (.int u2), .val (.int u3), .val (.int u4), .val (.int (u4 &&& (7 : Int32))), .val (.int mv1_0), .val (.long lx0), .second, .val (.long ly0), .second, .val (.long lx1), .second, .val (.long ly1), .second, .val (.long lx2), .second, .val (.long ly2), .second, .val (.long ((u3 >>> ((16 : Int32) &&& 31)).toInt64)), .second, .val (.long ((u3.toInt16.toInt32).toInt64)), .second, .unset, .unset, .unset, .unset, .unset, .unset, .unset, .unset, .unset, .unset, .unset, .unset, .unset, .unset, .unset, .unset, .unset] [])) target := by intro target kt; rw [elx3, ely3] at kt; exact kt
  obtain ⟨nk0, enk0⟩ : ∃ z : Int32, z = (u4 &&& (7 : Int32)) := ⟨_, rfl⟩
  obtain ⟨nk, enk⟩ : ∃ z : Int32, z = mv1_0 := ⟨_, rfl⟩
  have st6 : ∀ target, Steps p.tables e below (s₁.setTop (mkF m 69 #[.val (.int u0), .val (.int u1), .val (.int u2), .val (.int u3), .val (.int u4), .val (.int nk0), .val (.int nk), .val (.long lx0), .second, .val (.long ly0), .second, .val (.long lx1), .second, .val (.long ly1), .second, .val (.long lx2), .second, .val (.long ly2), .second, .val (.long lx3), .second, .val (.long ly3), .second, .unset, .unset, .unset, .unset, .unset, .unset, .unset, .unset, .unset, .unset, .unset, .unset, .unset, .unset, .unset, .unset, .unset] [])) target → Steps p.tables e below (s₁.setTop (mkF m 69 #[.val (.int u0), .val (.int u1), .val (.int u2), .val (.int u3), .val (.int u4), .val (.int (u4 &&& (7 : Int32))), .val (.int mv1_0), .val (.long lx0), .second, .val (.long ly0), .second, .val (.long lx1), .second, .val (.long ly1), .second, .val (.long lx2), .second, .val (.long ly2), .second, .val (.long lx3), .second, .val (.long ly3), .second, .unset, .unset, .unset, .unset, .unset, .unset, .unset, .unset, .unset, .unset, .unset, .unset, .unset, .unset, .unset, .unset, .unset] [])) target := by intro target kt; rw [enk, enk0] at kt; exact kt
  have hnk : nk = (4 : Int32) := enk.trans (me1_0.trans hk)
  obtain ⟨xda0, Lx0⟩ : ∃ i, LI i 32768 lx0 := ⟨_, elx0 ▸ LI.shr u0⟩
  obtain ⟨da0, eda0⟩ : ∃ z, z = FP.l2d lx0 := ⟨_, rfl⟩
  have Dda0 := LI.d Lx0 eda0 (by decide)
  obtain ⟨xdq0, Ly0⟩ : ∃ i, LI i 32768 ly0 := ⟨_, ely0 ▸ LI.i2s u0⟩
  obtain ⟨dq0, edq0⟩ : ∃ z, z = FP.l2d ly0 := ⟨_, rfl⟩
  have Ddq0 := LI.d Ly0 edq0 (by decide)
  obtain ⟨xda1, Lx1⟩ : ∃ i, LI i 32768 lx1 := ⟨_, elx1 ▸ LI.shr u1⟩
  obtain ⟨da1, eda1⟩ : ∃ z, z = FP.l2d lx1 := ⟨_, rfl⟩
  have Dda1 := LI.d Lx1 eda1 (by decide)
  obtain ⟨xdq1, Ly1⟩ : ∃ i, LI i 32768 ly1 := ⟨_, ely1 ▸ LI.i2s u1⟩
  obtain ⟨dq1, edq1⟩ : ∃ z, z = FP.l2d ly1 := ⟨_, rfl⟩
  have Ddq1 := LI.d Ly1 edq1 (by decide)
  obtain ⟨xda2, Lx2⟩ : ∃ i, LI i 32768 lx2 := ⟨_, elx2 ▸ LI.shr u2⟩
  obtain ⟨da2, eda2⟩ : ∃ z, z = FP.l2d lx2 := ⟨_, rfl⟩
  have Dda2 := LI.d Lx2 eda2 (by decide)
  obtain ⟨xdq2, Ly2⟩ : ∃ i, LI i 32768 ly2 := ⟨_, ely2 ▸ LI.i2s u2⟩
  obtain ⟨dq2, edq2⟩ : ∃ z, z = FP.l2d ly2 := ⟨_, rfl⟩
  have Ddq2 := LI.d Ly2 edq2 (by decide)
  obtain ⟨xda3, Lx3⟩ : ∃ i, LI i 32768 lx3 := ⟨_, elx3 ▸ LI.shr u3⟩
  obtain ⟨da3, eda3⟩ : ∃ z, z = FP.l2d lx3 := ⟨_, rfl⟩
  have Dda3 := LI.d Lx3 eda3 (by decide)
  obtain ⟨xdq3, Ly3⟩ : ∃ i, LI i 32768 ly3 := ⟨_, ely3 ▸ LI.i2s u3⟩
  obtain ⟨dq3, edq3⟩ : ∃ z, z = FP.l2d ly3 := ⟨_, rfl⟩
  have Ddq3 := LI.d Ly3 edq3 (by decide)
  replace hA : lcmpW (((((lx0 * ly1) - (lx1 * ly0)) + ((lx1 * ly2) - (lx2 * ly1))) + ((lx2 * ly3) - (lx3 * ly2))) + ((lx3 * ly0) - (lx0 * ly3))) (0 : Int64) < 0 := by rw [elx0, elx1, elx2, elx3, ely0, ely1, ely2, ely3]; exact hA
  have hL := LI.neg (LI.add (LI.add (LI.add (LI.sub (LI.mul Lx0 Ly1 (by decide)) (LI.mul Lx1 Ly0 (by decide)) (by decide)) (LI.sub (LI.mul Lx1 Ly2 (by decide)) (LI.mul Lx2 Ly1 (by decide)) (by decide)) (by decide)) (LI.sub (LI.mul Lx2 Ly3 (by decide)) (LI.mul Lx3 Ly2 (by decide)) (by decide)) (by decide)) (LI.sub (LI.mul Lx3 Ly0 (by decide)) (LI.mul Lx0 Ly3 (by decide)) (by decide)) (by decide))
  have hB : (((((0 : Int) + ((xda0 * xdq1) - (xda1 * xdq0))) + ((xda1 * xdq2) - (xda2 * xdq1))) + ((xda2 * xdq3) - (xda3 * xdq2))) + ((xda3 * xdq0) - (xda0 * xdq3))) < 0 := by have q := hL.mp hA; omega
  obtain ⟨_, _, ⟨T7, L7, k7, n7⟩, -, X7, ⟨Lc7, hQ7, l7, y7, z7⟩, st7⟩ := Jvm.LawKit.callS X0 hx (y := (⟨"com/example/decorum/decorum/graphics/RasterizerClockwisePinLaw", "build", "(IJJJJJJJJ)[D"⟩ : MethodName)) hown (mvT hZ (hw _ (List.mem_of_getElem? (i := 0) rfl))) (mvT hZ (hw _ (List.mem_of_getElem? (i := 1) rfl))) (mvT hZ (hw _ (List.mem_of_getElem? (i := 2) rfl))) (mvT hZ (hw _ (List.mem_of_getElem? (i := 3) rfl))) (by decide) (backOf (W := 0) (rmB4 l Z a0 hw [] nk lx0 ly0 lx1 ly1 lx2 ly2 lx3 ly3 da0 dq0 da1 dq1 da2 dq2 da3 dq3 h0 n0 Z0 hnk eda0 edq0 eda1 edq1 eda2 edq2 eda3 edq3) hZ (hw _ (List.mem_of_getElem? (i := 3) rfl)) (hw _ (List.mem_of_getElem? (i := 2) rfl)) (by decide) (by decide)) (g := (mkF m 87 #[.val (.int u0), .val (.int u1), .val (.int u2), .val (.int u3), .val (.int u4), .val (.int nk0), .val (.int nk), .val (.long lx0), .second, .val (.long ly0), .second, .val (.long lx1), .second, .val (.long ly1), .second, .val (.long lx2), .second, .val (.long ly2), .second, .val (.long lx3), .second, .val (.long ly3), .second, .unset, .unset, .unset, .unset, .unset, .unset, .unset, .unset, .unset, .unset, .unset, .unset, .unset, .unset, .unset, .unset, .unset] [(.long ly3), (.long lx3), (.long ly2), (.long lx2), (.long ly1), (.long lx1), (.long ly0), (.long lx0), (.int nk)])) rfl (by rw [hml]; rfl) (argsL := [(.int nk), (.long lx0), (.long ly0), (.long lx1), (.long ly1), (.long lx2), (.long ly2), (.long lx3), (.long ly3)]) (rest := []) (lenOf pd_0 rfl) rfl (by show 2 * 0 + _ ≤ _; exact Nat.le_of_eq rfl) (hb hby at_87) (fun _ _ => ⟨rfl, e0, (by decide : 0 + 1 ≤ _), (by decide : 0 + 8 ≤ _)⟩)
  dsimp only [Pt.U, Pt.locs, Pt.cells, Pt.slots] at X7 l7 y7 z7 st7 hQ7
  replace y7 : k7 = 1 := y7
  replace z7 : n7 = 8 := z7
  rw [y7, z7] at X7
  obtain ⟨hv7, N7q, K7, kk7, V7⟩ := hQ7
  obtain ⟨b7, g7⟩ : ∃ z, z = h0.size := ⟨_, rfl⟩
  rw [← g7] at hv7 V7
  subst hv7
  have g_b7 : n0 ≤ b7 := Nat.le_trans Z0 (Nat.le_of_eq g7.symm)
  have sz_b7 : h0.size ≤ b7 := Nat.le_trans (Keep.refl h0 []).1 (Nat.le_of_eq g7.symm)
  have N7 : Fr n0 L7 := l7 ▸ Fr.app N0 N7q
  have Z7 : n0 ≤ T7.heap.size := Nat.le_trans Z0 K7.1
  have KK7 := (Keep.refl h0 []).trans K7 all0
  obtain ⟨_, _, ⟨T8, L8, k8, n8⟩, -, X8, ⟨Lc8, hQ8, l8, y8, z8⟩, st8⟩ := Jvm.LawKit.callS X7 hx (y := (⟨"com/example/decorum/decorum/graphics/RasterizerClockwisePinLaw", "build", "(IJJJJJJJJ)[D"⟩ : MethodName)) hown (mvT hZ (hw _ (List.mem_of_getElem? (i := 0) rfl))) (mvT hZ (hw _ (List.mem_of_getElem? (i := 1) rfl))) (mvT hZ (hw _ (List.mem_of_getElem? (i := 2) rfl))) (mvT hZ (hw _ (List.mem_of_getElem? (i := 3) rfl))) (by decide) (backOf (W := 0) (rmB4 l Z a0 hw [] nk lx0 ly0 lx1 ly1 lx2 ly2 lx3 ly3 da0 dq0 da1 dq1 da2 dq2 da3 dq3 T7.heap n0 Z7 hnk eda0 edq0 eda1 edq1 eda2 edq2 eda3 edq3) hZ (hw _ (List.mem_of_getElem? (i := 3) rfl)) (hw _ (List.mem_of_getElem? (i := 2) rfl)) (by decide) (by decide)) (g := (mkF m 110 #[.val (.int u0), .val (.int u1), .val (.int u2), .val (.int u3), .val (.int u4), .val (.int nk0), .val (.int nk), .val (.long lx0), .second, .val (.long ly0), .second, .val (.long lx1), .second, .val (.long ly1), .second, .val (.long lx2), .second, .val (.long ly2), .second, .val (.long lx3), .second, .val (.long ly3), .second, .val (.ref b7), .unset, .unset, .unset, .unset, .unset, .unset, .unset, .unset, .unset, .unset, .unset, .unset, .unset, .unset, .unset, .unset] [(.long ly3), (.long lx3), (.long ly2), (.long lx2), (.long ly1), (.long lx1), (.long ly0), (.long lx0), (.int nk)])) rfl (by rw [hml]; rfl) (argsL := [(.int nk), (.long lx0), (.long ly0), (.long lx1), (.long ly1), (.long lx2), (.long ly2), (.long lx3), (.long ly3)]) (rest := []) (lenOf pd_0 rfl) rfl (by show 2 * 0 + _ ≤ _; exact Nat.le_of_eq rfl) (hb hby at_110) (fun _ _ => ⟨rfl, rfl, (by decide : 1 + 1 ≤ _), (by decide : 8 + 8 ≤ _)⟩)
  dsimp only [Pt.U, Pt.locs, Pt.cells, Pt.slots] at X8 l8 y8 z8 st8 hQ8
  replace y8 : k8 = 2 := y8
  replace z8 : n8 = 16 := z8
  rw [y8, z8] at X8
  obtain ⟨hv8, N8q, K8, kk8, V8⟩ := hQ8
  obtain ⟨b8, g8⟩ : ∃ z, z = T7.heap.size := ⟨_, rfl⟩
  rw [← g8] at hv8 V8
  subst hv8
  have g_b8 : n0 ≤ b8 := Nat.le_trans Z7 (Nat.le_of_eq g8.symm)
  have sz_b8 : h0.size ≤ b8 := Nat.le_trans KK7.1 (Nat.le_of_eq g8.symm)
  have N8 : Fr n0 L8 := l8 ▸ Fr.app N7 N8q
  have Z8 : n0 ≤ T8.heap.size := Nat.le_trans Z7 K8.1
  have KK8 := KK7.trans K8 all0
  obtain ⟨_, _, ⟨T9, L9, k9, n9⟩, -, X9, ⟨Lc9, hQ9, l9, y9, z9⟩, st9⟩ := Jvm.LawKit.callS X8 hx (y := (⟨"com/example/decorum/decorum/graphics/RasterizerClockwisePinLaw", "build", "(IJJJJJJJJ)[D"⟩ : MethodName)) hown (mvT hZ (hw _ (List.mem_of_getElem? (i := 0) rfl))) (mvT hZ (hw _ (List.mem_of_getElem? (i := 1) rfl))) (mvT hZ (hw _ (List.mem_of_getElem? (i := 2) rfl))) (mvT hZ (hw _ (List.mem_of_getElem? (i := 3) rfl))) (by decide) (backOf (W := 0) (rmB4 l Z a0 hw [] (4 : Int32) lx3 ly3 lx2 ly2 lx1 ly1 lx0 ly0 da3 dq3 da2 dq2 da1 dq1 da0 dq0 T8.heap n0 Z8 rfl eda3 edq3 eda2 edq2 eda1 edq1 eda0 edq0) hZ (hw _ (List.mem_of_getElem? (i := 3) rfl)) (hw _ (List.mem_of_getElem? (i := 2) rfl)) (by decide) (by decide)) (g := (mkF m 138 #[.val (.int u0), .val (.int u1), .val (.int u2), .val (.int u3), .val (.int u4), .val (.int nk0), .val (.int nk), .val (.long lx0), .second, .val (.long ly0), .second, .val (.long lx1), .second, .val (.long ly1), .second, .val (.long lx2), .second, .val (.long ly2), .second, .val (.long lx3), .second, .val (.long ly3), .second, .val (.ref b7), .val (.ref b8), .unset, .unset, .unset, .unset, .unset, .unset, .unset, .unset, .unset, .unset, .unset, .unset, .unset, .unset, .unset] [(.long ly0), (.long lx0), (.long ly1), (.long lx1), (.long ly2), (.long lx2), (.long ly3), (.long lx3), (.int (4 : Int32))])) rfl (by rw [hml]; rfl) (argsL := [(.int (4 : Int32)), (.long lx3), (.long ly3), (.long lx2), (.long ly2), (.long lx1), (.long ly1), (.long lx0), (.long ly0)]) (rest := []) (lenOf pd_0 rfl) rfl (by show 2 * 0 + _ ≤ _; exact Nat.le_of_eq rfl) (hb hby at_138) (fun _ _ => ⟨rfl, rfl, (by decide : 2 + 1 ≤ _), (by decide : 16 + 8 ≤ _)⟩)
  dsimp only [Pt.U, Pt.locs, Pt.cells, Pt.slots] at X9 l9 y9 z9 st9 hQ9
  replace y9 : k9 = 3 := y9
  replace z9 : n9 = 24 := z9
  rw [y9, z9] at X9
  obtain ⟨hv9, N9q, K9, kk9, V9⟩ := hQ9
  obtain ⟨b9, g9⟩ : ∃ z, z = T8.heap.size := ⟨_, rfl⟩
  rw [← g9] at hv9 V9
  subst hv9
  have g_b9 : n0 ≤ b9 := Nat.le_trans Z8 (Nat.le_of_eq g9.symm)
  have sz_b9 : h0.size ≤ b9 := Nat.le_trans KK8.1 (Nat.le_of_eq g9.symm)
  have N9 : Fr n0 L9 := l9 ▸ Fr.app N8 N9q
  have Z9 : n0 ≤ T9.heap.size := Nat.le_trans Z8 K9.1
  have KK9 := KK8.trans K9 all0
  obtain ⟨c26, ec26⟩ : ∃ z : Int64, z = ((lx0 * ly1) - (lx1 * ly0)) := ⟨_, rfl⟩
  obtain ⟨c28, ec28⟩ : ∃ z : Int64, z = ((lx1 * ly2) - (lx2 * ly1)) := ⟨_, rfl⟩
  obtain ⟨c30, ec30⟩ : ∃ z : Int64, z = ((lx2 * ly0) - (lx0 * ly2)) := ⟨_, rfl⟩
  obtain ⟨c32, ec32⟩ : ∃ z : Int64, z = ((lx2 * ly3) - (lx3 * ly2)) := ⟨_, rfl⟩
  obtain ⟨c34, ec34⟩ : ∃ z : Int64, z = ((lx3 * ly0) - (lx0 * ly3)) := ⟨_, rfl⟩
  have st10 : ∀ target, Steps p.tables e below (T9.setTop (mkF m 230 #[.val (.int u0), .val (.int u1), .val (.int u2), .val (.int u3), .val (.int u4), .val (.int nk0), .val (.int nk), .val (.long lx0), .second, .val (.long ly0), .second, .val (.long lx1), .second, .val (.long ly1), .second, .val (.long lx2), .second, .val (.long ly2), .second, .val (.long lx3), .second, .val (.long ly3), .second, .val (.ref b7), .val (.ref b8), .val (.ref b9), .val (.long c26), .second, .val (.long c28), .second, .val (.long c30), .second, .val (.long c32), .second, .val (.long c34), .second, .unset, .unset, .unset, .unset] [])) target → Steps p.tables e below (T9.setTop (mkF m 230 #[.val (.int u0), .val (.int u1), .val (.int u2), .val (.int u3), .val (.int u4), .val (.int nk0), .val (.int nk), .val (.long lx0), .second, .val (.long ly0), .second, .val (.long lx1), .second, .val (.long ly1), .second, .val (.long lx2), .second, .val (.long ly2), .second, .val (.long lx3), .second, .val (.long ly3), .second, .val (.ref b7), .val (.ref b8), .val (.ref b9), .val (.long ((lx0 * ly1) - (lx1 * ly0))), .second, .val (.long ((lx1 * ly2) - (lx2 * ly1))), .second, .val (.long ((lx2 * ly0) - (lx0 * ly2))), .second, .val (.long ((lx2 * ly3) - (lx3 * ly2))), .second, .val (.long ((lx3 * ly0) - (lx0 * ly3))), .second, .unset, .unset, .unset, .unset] [])) target := by intro target kt; rw [ec26, ec28, ec30, ec32, ec34] at kt; exact kt
  obtain ⟨_, _, ⟨T11, L11, k11, n11⟩, -, X11, ⟨Lc11, hQ11, l11, y11, z11⟩, st11⟩ := Jvm.LawKit.callS X9 hx (y := (⟨"com/example/decorum/decorum/graphics/Rasterizer", "clockwise", "([D)[D"⟩ : MethodName)) hown (mvT hZ (hw _ (List.mem_of_getElem? (i := 5) rfl))) (mvT hZ (hw _ (List.mem_of_getElem? (i := 6) rfl))) (mvT hZ (hw _ (List.mem_of_getElem? (i := 7) rfl))) (mvT hZ (hw _ (List.mem_of_getElem? (i := 8) rfl))) (by decide) (backOf (W := 0) (rmC4n l Z a0 hw [] b7 kk7 da0 dq0 da1 dq1 da2 dq2 da3 dq3 xda0 xdq0 xda1 xdq1 xda2 xdq2 xda3 xdq3 T9.heap n0 Z9 ((V7.keep K8 nin0).keep K9 nin0) Dda0 Ddq0 Dda1 Ddq1 Dda2 Ddq2 Dda3 Ddq3 hB) hZ (hw _ (List.mem_of_getElem? (i := 8) rfl)) (hw _ (List.mem_of_getElem? (i := 7) rfl)) (by decide) (by decide)) (g := (mkF m 273 #[.val (.int u0), .val (.int u1), .val (.int u2), .val (.int u3), .val (.int u4), .val (.int nk0), .val (.int nk), .val (.long lx0), .second, .val (.long ly0), .second, .val (.long lx1), .second, .val (.long ly1), .second, .val (.long lx2), .second, .val (.long ly2), .second, .val (.long lx3), .second, .val (.long ly3), .second, .val (.ref b7), .val (.ref b8), .val (.ref b9), .val (.long c26), .second, .val (.long c28), .second, .val (.long c30), .second, .val (.long c32), .second, .val (.long c34), .second, .val (.long (((c26 + c28) + c32) + c34)), .second, .unset, .unset] [(.ref b7)])) rfl (by rw [hml]; rfl) (argsL := [(.ref b7)]) (rest := []) (lenOf pd_1 rfl) rfl (by show 2 * 0 + _ ≤ _; exact Nat.le_of_eq rfl) (hb hby at_273) (fun _ _ => ⟨rfl, rfl, (by decide : 3 + 1 ≤ _), (by decide : 24 + 8 ≤ _)⟩)
  dsimp only [Pt.U, Pt.locs, Pt.cells, Pt.slots] at X11 l11 y11 z11 st11 hQ11
  replace y11 : k11 = 4 := y11
  replace z11 : n11 = 32 := z11
  rw [y11, z11] at X11
  obtain ⟨hv11, N11q, K11, kk11, V11⟩ := hQ11
  obtain ⟨b11, g11⟩ : ∃ z, z = T9.heap.size := ⟨_, rfl⟩
  rw [← g11] at hv11 V11
  subst hv11
  have g_b11 : n0 ≤ b11 := Nat.le_trans Z9 (Nat.le_of_eq g11.symm)
  have sz_b11 : h0.size ≤ b11 := Nat.le_trans KK9.1 (Nat.le_of_eq g11.symm)
  have N11 : Fr n0 L11 := l11 ▸ Fr.app N9 N11q
  have Z11 : n0 ≤ T11.heap.size := Nat.le_trans Z9 K11.1
  have KK11 := KK9.trans K11 all0
  obtain ⟨_, _, ⟨T12, L12, k12, n12⟩, -, X12, ⟨Lc12, hQ12, l12, y12, z12⟩, st12⟩ := Jvm.LawKit.callS X11 hx (y := (⟨"com/example/decorum/decorum/graphics/RasterizerClockwisePinLaw", "same", "([D[D)Z"⟩ : MethodName)) hown (mvT hZ (hw _ (List.mem_of_getElem? (i := 9) rfl))) (mvT hZ (hw _ (List.mem_of_getElem? (i := 10) rfl))) (mvT hZ (hw _ (List.mem_of_getElem? (i := 2) rfl))) (mvT hZ (hw _ (List.mem_of_getElem? (i := 11) rfl))) (by decide) (backOf (W := 0) (rmS4 l Z a0 hw [] b7 b8 kk7 kk8 da0 dq0 da1 dq1 da2 dq2 da3 dq3 T11.heap n0 Z11 (((V7.keep K8 nin0).keep K9 nin0).keep K11 nin0) ((V8.keep K9 nin0).keep K11 nin0) Dda0.nn Ddq0.nn Dda1.nn Ddq1.nn Dda2.nn Ddq2.nn Dda3.nn Ddq3.nn) hZ (hw _ (List.mem_of_getElem? (i := 11) rfl)) (hw _ (List.mem_of_getElem? (i := 2) rfl)) (by decide) (by decide)) (g := (mkF m 282 #[.val (.int u0), .val (.int u1), .val (.int u2), .val (.int u3), .val (.int u4), .val (.int nk0), .val (.int nk), .val (.long lx0), .second, .val (.long ly0), .second, .val (.long lx1), .second, .val (.long ly1), .second, .val (.long lx2), .second, .val (.long ly2), .second, .val (.long lx3), .second, .val (.long ly3), .second, .val (.ref b7), .val (.ref b8), .val (.ref b9), .val (.long c26), .second, .val (.long c28), .second, .val (.long c30), .second, .val (.long c32), .second, .val (.long c34), .second, .val (.long (((c26 + c28) + c32) + c34)), .second, .val (.ref b11), .unset] [(.ref b8), (.ref b7)])) rfl (by rw [hml]; rfl) (argsL := [(.ref b7), (.ref b8)]) (rest := []) (lenOf pd_2 rfl) rfl (by show 2 * 0 + _ ≤ _; exact Nat.le_of_eq rfl) (hb hby at_282) (fun _ _ => ⟨rfl, rfl, (by decide : 4 + 0 ≤ _), (by decide : 32 + 0 ≤ _)⟩)
  dsimp only [Pt.U, Pt.locs, Pt.cells, Pt.slots] at X12 l12 y12 z12 st12 hQ12
  replace y12 : k12 = 4 := y12
  replace z12 : n12 = 32 := z12
  rw [y12, z12] at X12
  obtain ⟨rfl, N12q, e12⟩ := hQ12
  have N12 : Fr n0 L12 := l12 ▸ Fr.app N11 N12q
  obtain ⟨_, _, ⟨T13, L13, k13, n13⟩, -, X13, ⟨Lc13, hQ13, l13, y13, z13⟩, st13⟩ := Jvm.LawKit.callS X12 hx (y := (⟨"com/example/decorum/decorum/graphics/RasterizerClockwisePinLaw", "same", "([D[D)Z"⟩ : MethodName)) hown (mvT hZ (hw _ (List.mem_of_getElem? (i := 9) rfl))) (mvT hZ (hw _ (List.mem_of_getElem? (i := 10) rfl))) (mvT hZ (hw _ (List.mem_of_getElem? (i := 2) rfl))) (mvT hZ (hw _ (List.mem_of_getElem? (i := 11) rfl))) (by decide) (backOf (W := 0) (rmS4 l Z a0 hw [] b11 b9 kk11 kk9 da3 dq3 da2 dq2 da1 dq1 da0 dq0 T11.heap n0 Z11 V11 (V9.keep K11 nin0) Dda3.nn Ddq3.nn Dda2.nn Ddq2.nn Dda1.nn Ddq1.nn Dda0.nn Ddq0.nn) hZ (hw _ (List.mem_of_getElem? (i := 11) rfl)) (hw _ (List.mem_of_getElem? (i := 2) rfl)) (by decide) (by decide)) (g := (mkF m 328 #[.val (.int u0), .val (.int u1), .val (.int u2), .val (.int u3), .val (.int u4), .val (.int nk0), .val (.int nk), .val (.long lx0), .second, .val (.long ly0), .second, .val (.long lx1), .second, .val (.long ly1), .second, .val (.long lx2), .second, .val (.long ly2), .second, .val (.long lx3), .second, .val (.long ly3), .second, .val (.ref b7), .val (.ref b8), .val (.ref b9), .val (.long c26), .second, .val (.long c28), .second, .val (.long c30), .second, .val (.long c32), .second, .val (.long c34), .second, .val (.long (((c26 + c28) + c32) + c34)), .second, .val (.ref b11), .val (.int (1 : Int32))] [(.ref b9), (.ref b11)])) rfl (by rw [hml]; rfl) (argsL := [(.ref b11), (.ref b9)]) (rest := []) (lenOf pd_2 rfl) rfl (by show 2 * 0 + _ ≤ _; exact Nat.le_of_eq rfl) (hb hby at_328) (fun _ _ => ⟨rfl, e12, (by decide : 4 + 0 ≤ _), (by decide : 32 + 0 ≤ _)⟩)
  dsimp only [Pt.U, Pt.locs, Pt.cells, Pt.slots] at X13 l13 y13 z13 st13 hQ13
  replace y13 : k13 = 4 := y13
  replace z13 : n13 = 32 := z13
  rw [y13, z13] at X13
  obtain ⟨rfl, N13q, e13⟩ := hQ13
  have N13 : Fr n0 L13 := l13 ▸ Fr.app N12 N13q
  obtain ⟨fs, hr, hrun, hended, hW, hsame⟩ := X13.leave (v := some (.int (1 : Int32))) (fun h => by rw [Bd.returns] at h; cases h)
  refine ⟨_, _, pre0 _ ?_, hrun, hended, _, _, rfl, ?_, ⟨_, rfl⟩, hW, hsame.mono (by decide) (by decide)⟩
  · show Steps p.tables e below (s₁.setTop (mkF m 0 #[.val (.int u0), .val (.int u1), .val (.int u2), .val (.int u3), .val (.int u4), .unset, .unset, .unset, .unset, .unset, .unset, .unset, .unset, .unset, .unset, .unset, .unset, .unset, .unset, .unset, .unset, .unset, .unset, .unset, .unset, .unset, .unset, .unset, .unset, .unset, .unset, .unset, .unset, .unset, .unset, .unset, .unset, .unset, .unset, .unset] [])) _
    refine XS.iload X0.here hx rfl (hb hby at_0) rfl ?_
    refine XS.bipush X0.here hx rfl (hb hby at_2) ?_
    show Steps p.tables e below (s₁.setTop (mkF m 4 #[.val (.int u0), .val (.int u1), .val (.int u2), .val (.int u3), .val (.int u4), .unset, .unset, .unset, .unset, .unset, .unset, .unset, .unset, .unset, .unset, .unset, .unset, .unset, .unset, .unset, .unset, .unset, .unset, .unset, .unset, .unset, .unset, .unset, .unset, .unset, .unset, .unset, .unset, .unset, .unset, .unset, .unset, .unset, .unset, .unset] [(.int (7 : Int32)), (.int u4)])) _
    refine XS.iand X0.here hx rfl (hb hby at_4) rfl ?_
    show Steps p.tables e below (s₁.setTop (mkF m 5 #[.val (.int u0), .val (.int u1), .val (.int u2), .val (.int u3), .val (.int u4), .unset, .unset, .unset, .unset, .unset, .unset, .unset, .unset, .unset, .unset, .unset, .unset, .unset, .unset, .unset, .unset, .unset, .unset, .unset, .unset, .unset, .unset, .unset, .unset, .unset, .unset, .unset, .unset, .unset, .unset, .unset, .unset, .unset, .unset, .unset] [(.int (u4 &&& (7 : Int32)))])) _
    refine XS.istore X0.here hx rfl (hb hby at_5) rfl (l' := #[.val (.int u0), .val (.int u1), .val (.int u2), .val (.int u3), .val (.int u4), .val (.int (u4 &&& (7 : Int32))), .unset, .unset, .unset, .unset, .unset, .unset, .unset, .unset, .unset, .unset, .unset, .unset, .unset, .unset, .unset, .unset, .unset, .unset, .unset, .unset, .unset, .unset, .unset, .unset, .unset, .unset, .unset, .unset, .unset, .unset, .unset, .unset, .unset, .unset]) rfl ?_
    refine st1 _ ?_
    refine XS.istore X0.here hx rfl (hb hby at_19) rfl (l' := #[.val (.int u0), .val (.int u1), .val (.int u2), .val (.int u3), .val (.int u4), .val (.int (u4 &&& (7 : Int32))), .val (.int mv1_0), .unset, .unset, .unset, .unset, .unset, .unset, .unset, .unset, .unset, .unset, .unset, .unset, .unset, .unset, .unset, .unset, .unset, .unset, .unset, .unset, .unset, .unset, .unset, .unset, .unset, .unset, .unset, .unset, .unset, .unset, .unset, .unset, .unset]) rfl ?_
    refine XS.iloadN X0.here hx rfl (hb hby at_21) rfl ?_
    refine XS.bipush X0.here hx rfl (hb hby at_22) ?_
    refine XS.ishr X0.here hx rfl (hb hby at_24) rfl ?_
    refine XS.i2l X0.here hx rfl (hb hby at_25) rfl ?_
    refine XS.lstore X0.here hx rfl (hb hby at_26) rfl (l' := #[.val (.int u0), .val (.int u1), .val (.int u2), .val (.int u3), .val (.int u4), .val (.int (u4 &&& (7 : Int32))), .val (.int mv1_0), .val (.long ((u0 >>> ((16 : Int32) &&& 31)).toInt64)), .second, .unset, .unset, .unset, .unset, .unset, .unset, .unset, .unset, .unset, .unset, .unset, .unset, .unset, .unset, .unset, .unset, .unset, .unset, .unset, .unset, .unset, .unset, .unset, .unset, .unset, .unset, .unset, .unset, .unset, .unset, .unset]) rfl ?_
    refine XS.iloadN X0.here hx rfl (hb hby at_28) rfl ?_
    refine XS.i2s X0.here hx rfl (hb hby at_29) rfl ?_
    refine XS.i2l X0.here hx rfl (hb hby at_30) rfl ?_
    refine XS.lstore X0.here hx rfl (hb hby at_31) rfl (l' := #[.val (.int u0), .val (.int u1), .val (.int u2), .val (.int u3), .val (.int u4), .val (.int (u4 &&& (7 : Int32))), .val (.int mv1_0), .val (.long ((u0 >>> ((16 : Int32) &&& 31)).toInt64)), .second, .val (.long ((u0.toInt16.toInt32).toInt64)), .second, .unset, .unset, .unset, .unset, .unset, .unset, .unset, .unset, .unset, .unset, .unset, .unset, .unset, .unset, .unset, .unset, .unset, .unset, .unset, .unset, .unset, .unset, .unset, .unset, .unset, .unset, .unset, .unset, .unset]) rfl ?_
    refine st2 _ ?_
    show Steps p.tables e below (s₁.setTop (mkF m 33 #[.val (.int u0), .val (.int u1), .val (.int u2), .val (.int u3), .val (.int u4), .val (.int (u4 &&& (7 : Int32))), .val (.int mv1_0), .val (.long lx0), .second, .val (.long ly0), .second, .unset, .unset, .unset, .unset, .unset, .unset, .unset, .unset, .unset, .unset, .unset, .unset, .unset, .unset, .unset, .unset, .unset, .unset, .unset, .unset, .unset, .unset, .unset, .unset, .unset, .unset, .unset, .unset, .unset] [])) _
    refine XS.iloadN X0.here hx rfl (hb hby at_33) rfl ?_
    refine XS.bipush X0.here hx rfl (hb hby at_34) ?_
    refine XS.ishr X0.here hx rfl (hb hby at_36) rfl ?_
    refine XS.i2l X0.here hx rfl (hb hby at_37) rfl ?_
    refine XS.lstore X0.here hx rfl (hb hby at_38) rfl (l' := #[.val (.int u0), .val (.int u1), .val (.int u2), .val (.int u3), .val (.int u4), .val (.int (u4 &&& (7 : Int32))), .val (.int mv1_0), .val (.long lx0), .second, .val (.long ly0), .second, .val (.long ((u1 >>> ((16 : Int32) &&& 31)).toInt64)), .second, .unset, .unset, .unset, .unset, .unset, .unset, .unset, .unset, .unset, .unset, .unset, .unset, .unset, .unset, .unset, .unset, .unset, .unset, .unset, .unset, .unset, .unset, .unset, .unset, .unset, .unset, .unset]) rfl ?_
    refine XS.iloadN X0.here hx rfl (hb hby at_40) rfl ?_
    refine XS.i2s X0.here hx rfl (hb hby at_41) rfl ?_
    refine XS.i2l X0.here hx rfl (hb hby at_42) rfl ?_
    refine XS.lstore X0.here hx rfl (hb hby at_43) rfl (l' := #[.val (.int u0), .val (.int u1), .val (.int u2), .val (.int u3), .val (.int u4), .val (.int (u4 &&& (7 : Int32))), .val (.int mv1_0), .val (.long lx0), .second, .val (.long ly0), .second, .val (.long ((u1 >>> ((16 : Int32) &&& 31)).toInt64)), .second, .val (.long ((u1.toInt16.toInt32).toInt64)), .second, .unset, .unset, .unset, .unset, .unset, .unset, .unset, .unset, .unset, .unset, .unset, .unset, .unset, .unset, .unset, .unset, .unset, .unset, .unset, .unset, .unset, .unset, .unset, .unset, .unset]) rfl ?_
    refine st3 _ ?_
    show Steps p.tables e below (s₁.setTop (mkF m 45 #[.val (.int u0), .val (.int u1), .val (.int u2), .val (.int u3), .val (.int u4), .val (.int (u4 &&& (7 : Int32))), .val (.int mv1_0), .val (.long lx0), .second, .val (.long ly0), .second, .val (.long lx1), .second, .val (.long ly1), .second, .unset, .unset, .unset, .unset, .unset, .unset, .unset, .unset, .unset, .unset, .unset, .unset, .unset, .unset, .unset, .unset, .unset, .unset, .unset, .unset, .unset, .unset, .unset, .unset, .unset] [])) _
    refine XS.iloadN X0.here hx rfl (hb hby at_45) rfl ?_
    refine XS.bipush X0.here hx rfl (hb hby at_46) ?_
    refine XS.ishr X0.here hx rfl (hb hby at_48) rfl ?_
    refine XS.i2l X0.here hx rfl (hb hby at_49) rfl ?_
    refine XS.lstore X0.here hx rfl (hb hby at_50) rfl (l' := #[.val (.int u0), .val (.int u1), .val (.int u2), .val (.int u3), .val (.int u4), .val (.int (u4 &&& (7 : Int32))), .val (.int mv1_0), .val (.long lx0), .second, .val (.long ly0), .second, .val (.long lx1), .second, .val (.long ly1), .second, .val (.long ((u2 >>> ((16 : Int32) &&& 31)).toInt64)), .second, .unset, .unset, .unset, .unset, .unset, .unset, .unset, .unset, .unset, .unset, .unset, .unset, .unset, .unset, .unset, .unset, .unset, .unset, .unset, .unset, .unset, .unset, .unset]) rfl ?_
    refine XS.iloadN X0.here hx rfl (hb hby at_52) rfl ?_
    refine XS.i2s X0.here hx rfl (hb hby at_53) rfl ?_
    refine XS.i2l X0.here hx rfl (hb hby at_54) rfl ?_
    refine XS.lstore X0.here hx rfl (hb hby at_55) rfl (l' := #[.val (.int u0), .val (.int u1), .val (.int u2), .val (.int u3), .val (.int u4), .val (.int (u4 &&& (7 : Int32))), .val (.int mv1_0), .val (.long lx0), .second, .val (.long ly0), .second, .val (.long lx1), .second, .val (.long ly1), .second, .val (.long ((u2 >>> ((16 : Int32) &&& 31)).toInt64)), .second, .val (.long ((u2.toInt16.toInt32).toInt64)), .second, .unset, .unset, .unset, .unset, .unset, .unset, .unset, .unset, .unset, .unset, .unset, .unset, .unset, .unset, .unset, .unset, .unset, .unset, .unset, .unset, .unset]) rfl ?_
    refine st4 _ ?_
    show Steps p.tables e below (s₁.setTop (mkF m 57 #[.val (.int u0), .val (.int u1), .val (.int u2), .val (.int u3), .val (.int u4), .val (.int (u4 &&& (7 : Int32))), .val (.int mv1_0), .val (.long lx0), .second, .val (.long ly0), .second, .val (.long lx1), .second, .val (.long ly1), .second, .val (.long lx2), .second, .val (.long ly2), .second, .unset, .unset, .unset, .unset, .unset, .unset, .unset, .unset, .unset, .unset, .unset, .unset, .unset, .unset, .unset, .unset, .unset, .unset, .unset, .unset, .unset] [])) _
    refine XS.iloadN X0.here hx rfl (hb hby at_57) rfl ?_
    refine XS.bipush X0.here hx rfl (hb hby at_58) ?_
    refine XS.ishr X0.here hx rfl (hb hby at_60) rfl ?_
    refine XS.i2l X0.here hx rfl (hb hby at_61) rfl ?_
    refine XS.lstore X0.here hx rfl (hb hby at_62) rfl (l' := #[.val (.int u0), .val (.int u1), .val (.int u2), .val (.int u3), .val (.int u4), .val (.int (u4 &&& (7 : Int32))), .val (.int mv1_0), .val (.long lx0), .second, .val (.long ly0), .second, .val (.long lx1), .second, .val (.long ly1), .second, .val (.long lx2), .second, .val (.long ly2), .second, .val (.long ((u3 >>> ((16 : Int32) &&& 31)).toInt64)), .second, .unset, .unset, .unset, .unset, .unset, .unset, .unset, .unset, .unset, .unset, .unset, .unset, .unset, .unset, .unset, .unset, .unset, .unset, .unset]) rfl ?_
    refine XS.iloadN X0.here hx rfl (hb hby at_64) rfl ?_
    refine XS.i2s X0.here hx rfl (hb hby at_65) rfl ?_
    refine XS.i2l X0.here hx rfl (hb hby at_66) rfl ?_
    refine XS.lstore X0.here hx rfl (hb hby at_67) rfl (l' := #[.val (.int u0), .val (.int u1), .val (.int u2), .val (.int u3), .val (.int u4), .val (.int (u4 &&& (7 : Int32))), .val (.int mv1_0), .val (.long lx0), .second, .val (.long ly0), .second, .val (.long lx1), .second, .val (.long ly1), .second, .val (.long lx2), .second, .val (.long ly2), .second, .val (.long ((u3 >>> ((16 : Int32) &&& 31)).toInt64)), .second, .val (.long ((u3.toInt16.toInt32).toInt64)), .second, .unset, .unset, .unset, .unset, .unset, .unset, .unset, .unset, .unset, .unset, .unset, .unset, .unset, .unset, .unset, .unset, .unset]) rfl ?_
    refine st5 _ ?_
    refine st6 _ ?_
    show Steps p.tables e below (s₁.setTop (mkF m 69 #[.val (.int u0), .val (.int u1), .val (.int u2), .val (.int u3), .val (.int u4), .val (.int nk0), .val (.int nk), .val (.long lx0), .second, .val (.long ly0), .second, .val (.long lx1), .second, .val (.long ly1), .second, .val (.long lx2), .second, .val (.long ly2), .second, .val (.long lx3), .second, .val (.long ly3), .second, .unset, .unset, .unset, .unset, .unset, .unset, .unset, .unset, .unset, .unset, .unset, .unset, .unset, .unset, .unset, .unset, .unset] [])) _
    refine XS.iload X0.here hx rfl (hb hby at_69) rfl ?_
    refine XS.lload X0.here hx rfl (hb hby at_71) rfl ?_
    refine XS.lload X0.here hx rfl (hb hby at_73) rfl ?_
    refine XS.lload X0.here hx rfl (hb hby at_75) rfl ?_
    refine XS.lload X0.here hx rfl (hb hby at_77) rfl ?_
    refine XS.lload X0.here hx rfl (hb hby at_79) rfl ?_
    refine XS.lload X0.here hx rfl (hb hby at_81) rfl ?_
    refine XS.lload X0.here hx rfl (hb hby at_83) rfl ?_
    refine XS.lload X0.here hx rfl (hb hby at_85) rfl ?_
    refine st7 _ ?_
    show Steps p.tables e below (T7.setTop (mkF m 90 #[.val (.int u0), .val (.int u1), .val (.int u2), .val (.int u3), .val (.int u4), .val (.int nk0), .val (.int nk), .val (.long lx0), .second, .val (.long ly0), .second, .val (.long lx1), .second, .val (.long ly1), .second, .val (.long lx2), .second, .val (.long ly2), .second, .val (.long lx3), .second, .val (.long ly3), .second, .unset, .unset, .unset, .unset, .unset, .unset, .unset, .unset, .unset, .unset, .unset, .unset, .unset, .unset, .unset, .unset, .unset] [(.ref b7)])) _
    refine XS.astore X7.here hx rfl (hb hby at_90) rfl rfl (l' := #[.val (.int u0), .val (.int u1), .val (.int u2), .val (.int u3), .val (.int u4), .val (.int nk0), .val (.int nk), .val (.long lx0), .second, .val (.long ly0), .second, .val (.long lx1), .second, .val (.long ly1), .second, .val (.long lx2), .second, .val (.long ly2), .second, .val (.long lx3), .second, .val (.long ly3), .second, .val (.ref b7), .unset, .unset, .unset, .unset, .unset, .unset, .unset, .unset, .unset, .unset, .unset, .unset, .unset, .unset, .unset, .unset]) rfl ?_
    refine XS.iload X7.here hx rfl (hb hby at_92) rfl ?_
    refine XS.lload X7.here hx rfl (hb hby at_94) rfl ?_
    refine XS.lload X7.here hx rfl (hb hby at_96) rfl ?_
    refine XS.lload X7.here hx rfl (hb hby at_98) rfl ?_
    refine XS.lload X7.here hx rfl (hb hby at_100) rfl ?_
    refine XS.lload X7.here hx rfl (hb hby at_102) rfl ?_
    refine XS.lload X7.here hx rfl (hb hby at_104) rfl ?_
    refine XS.lload X7.here hx rfl (hb hby at_106) rfl ?_
    refine XS.lload X7.here hx rfl (hb hby at_108) rfl ?_
    refine st8 _ ?_
    show Steps p.tables e below (T8.setTop (mkF m 113 #[.val (.int u0), .val (.int u1), .val (.int u2), .val (.int u3), .val (.int u4), .val (.int nk0), .val (.int nk), .val (.long lx0), .second, .val (.long ly0), .second, .val (.long lx1), .second, .val (.long ly1), .second, .val (.long lx2), .second, .val (.long ly2), .second, .val (.long lx3), .second, .val (.long ly3), .second, .val (.ref b7), .unset, .unset, .unset, .unset, .unset, .unset, .unset, .unset, .unset, .unset, .unset, .unset, .unset, .unset, .unset, .unset] [(.ref b8)])) _
    refine XS.astore X8.here hx rfl (hb hby at_113) rfl rfl (l' := #[.val (.int u0), .val (.int u1), .val (.int u2), .val (.int u3), .val (.int u4), .val (.int nk0), .val (.int nk), .val (.long lx0), .second, .val (.long ly0), .second, .val (.long lx1), .second, .val (.long ly1), .second, .val (.long lx2), .second, .val (.long ly2), .second, .val (.long lx3), .second, .val (.long ly3), .second, .val (.ref b7), .val (.ref b8), .unset, .unset, .unset, .unset, .unset, .unset, .unset, .unset, .unset, .unset, .unset, .unset, .unset, .unset, .unset]) rfl ?_
    refine XS.iload X8.here hx rfl (hb hby at_115) rfl ?_
    refine XS.iconst X8.here hx rfl (hb hby at_117) ?_
    refine XS.icmpNo X8.here hx rfl (hb hby at_118) rfl (teq hnk).2 ?_
    refine XS.iconst X8.here hx rfl (hb hby at_121) ?_
    refine XS.lload X8.here hx rfl (hb hby at_122) rfl ?_
    refine XS.lload X8.here hx rfl (hb hby at_124) rfl ?_
    refine XS.lload X8.here hx rfl (hb hby at_126) rfl ?_
    refine XS.lload X8.here hx rfl (hb hby at_128) rfl ?_
    refine XS.lload X8.here hx rfl (hb hby at_130) rfl ?_
    refine XS.lload X8.here hx rfl (hb hby at_132) rfl ?_
    refine XS.lload X8.here hx rfl (hb hby at_134) rfl ?_
    refine XS.lload X8.here hx rfl (hb hby at_136) rfl ?_
    refine st9 _ ?_
    show Steps p.tables e below (T9.setTop (mkF m 141 #[.val (.int u0), .val (.int u1), .val (.int u2), .val (.int u3), .val (.int u4), .val (.int nk0), .val (.int nk), .val (.long lx0), .second, .val (.long ly0), .second, .val (.long lx1), .second, .val (.long ly1), .second, .val (.long lx2), .second, .val (.long ly2), .second, .val (.long lx3), .second, .val (.long ly3), .second, .val (.ref b7), .val (.ref b8), .unset, .unset, .unset, .unset, .unset, .unset, .unset, .unset, .unset, .unset, .unset, .unset, .unset, .unset, .unset] [(.ref b9)])) _
    refine XS.goto X9.here hx rfl (pc0 := 141) (pc' := 163) rfl (hb hby at_141) (by decide) (by decide) ?_
    refine XS.astore X9.here hx rfl (hb hby at_163) rfl rfl (l' := #[.val (.int u0), .val (.int u1), .val (.int u2), .val (.int u3), .val (.int u4), .val (.int nk0), .val (.int nk), .val (.long lx0), .second, .val (.long ly0), .second, .val (.long lx1), .second, .val (.long ly1), .second, .val (.long lx2), .second, .val (.long ly2), .second, .val (.long lx3), .second, .val (.long ly3), .second, .val (.ref b7), .val (.ref b8), .val (.ref b9), .unset, .unset, .unset, .unset, .unset, .unset, .unset, .unset, .unset, .unset, .unset, .unset, .unset, .unset]) rfl ?_
    refine XS.lload X9.here hx rfl (hb hby at_165) rfl ?_
    refine XS.lload X9.here hx rfl (hb hby at_167) rfl ?_
    refine XS.lmul X9.here hx rfl (hb hby at_169) rfl ?_
    refine XS.lload X9.here hx rfl (hb hby at_170) rfl ?_
    refine XS.lload X9.here hx rfl (hb hby at_172) rfl ?_
    refine XS.lmul X9.here hx rfl (hb hby at_174) rfl ?_
    refine XS.lsub X9.here hx rfl (hb hby at_175) rfl ?_
    refine XS.lstore X9.here hx rfl (hb hby at_176) rfl (l' := #[.val (.int u0), .val (.int u1), .val (.int u2), .val (.int u3), .val (.int u4), .val (.int nk0), .val (.int nk), .val (.long lx0), .second, .val (.long ly0), .second, .val (.long lx1), .second, .val (.long ly1), .second, .val (.long lx2), .second, .val (.long ly2), .second, .val (.long lx3), .second, .val (.long ly3), .second, .val (.ref b7), .val (.ref b8), .val (.ref b9), .val (.long ((lx0 * ly1) - (lx1 * ly0))), .second, .unset, .unset, .unset, .unset, .unset, .unset, .unset, .unset, .unset, .unset, .unset, .unset]) rfl ?_
    refine XS.lload X9.here hx rfl (hb hby at_178) rfl ?_
    refine XS.lload X9.here hx rfl (hb hby at_180) rfl ?_
    refine XS.lmul X9.here hx rfl (hb hby at_182) rfl ?_
    refine XS.lload X9.here hx rfl (hb hby at_183) rfl ?_
    refine XS.lload X9.here hx rfl (hb hby at_185) rfl ?_
    refine XS.lmul X9.here hx rfl (hb hby at_187) rfl ?_
    refine XS.lsub X9.here hx rfl (hb hby at_188) rfl ?_
    refine XS.lstore X9.here hx rfl (hb hby at_189) rfl (l' := #[.val (.int u0), .val (.int u1), .val (.int u2), .val (.int u3), .val (.int u4), .val (.int nk0), .val (.int nk), .val (.long lx0), .second, .val (.long ly0), .second, .val (.long lx1), .second, .val (.long ly1), .second, .val (.long lx2), .second, .val (.long ly2), .second, .val (.long lx3), .second, .val (.long ly3), .second, .val (.ref b7), .val (.ref b8), .val (.ref b9), .val (.long ((lx0 * ly1) - (lx1 * ly0))), .second, .val (.long ((lx1 * ly2) - (lx2 * ly1))), .second, .unset, .unset, .unset, .unset, .unset, .unset, .unset, .unset, .unset, .unset]) rfl ?_
    refine XS.lload X9.here hx rfl (hb hby at_191) rfl ?_
    refine XS.lload X9.here hx rfl (hb hby at_193) rfl ?_
    refine XS.lmul X9.here hx rfl (hb hby at_195) rfl ?_
    refine XS.lload X9.here hx rfl (hb hby at_196) rfl ?_
    refine XS.lload X9.here hx rfl (hb hby at_198) rfl ?_
    refine XS.lmul X9.here hx rfl (hb hby at_200) rfl ?_
    refine XS.lsub X9.here hx rfl (hb hby at_201) rfl ?_
    show Steps p.tables e below (T9.setTop (mkF m 202 #[.val (.int u0), .val (.int u1), .val (.int u2), .val (.int u3), .val (.int u4), .val (.int nk0), .val (.int nk), .val (.long lx0), .second, .val (.long ly0), .second, .val (.long lx1), .second, .val (.long ly1), .second, .val (.long lx2), .second, .val (.long ly2), .second, .val (.long lx3), .second, .val (.long ly3), .second, .val (.ref b7), .val (.ref b8), .val (.ref b9), .val (.long ((lx0 * ly1) - (lx1 * ly0))), .second, .val (.long ((lx1 * ly2) - (lx2 * ly1))), .second, .unset, .unset, .unset, .unset, .unset, .unset, .unset, .unset, .unset, .unset] [(.long ((lx2 * ly0) - (lx0 * ly2)))])) _
    refine XS.lstore X9.here hx rfl (hb hby at_202) rfl (l' := #[.val (.int u0), .val (.int u1), .val (.int u2), .val (.int u3), .val (.int u4), .val (.int nk0), .val (.int nk), .val (.long lx0), .second, .val (.long ly0), .second, .val (.long lx1), .second, .val (.long ly1), .second, .val (.long lx2), .second, .val (.long ly2), .second, .val (.long lx3), .second, .val (.long ly3), .second, .val (.ref b7), .val (.ref b8), .val (.ref b9), .val (.long ((lx0 * ly1) - (lx1 * ly0))), .second, .val (.long ((lx1 * ly2) - (lx2 * ly1))), .second, .val (.long ((lx2 * ly0) - (lx0 * ly2))), .second, .unset, .unset, .unset, .unset, .unset, .unset, .unset, .unset]) rfl ?_
    refine XS.lload X9.here hx rfl (hb hby at_204) rfl ?_
    refine XS.lload X9.here hx rfl (hb hby at_206) rfl ?_
    refine XS.lmul X9.here hx rfl (hb hby at_208) rfl ?_
    refine XS.lload X9.here hx rfl (hb hby at_209) rfl ?_
    refine XS.lload X9.here hx rfl (hb hby at_211) rfl ?_
    refine XS.lmul X9.here hx rfl (hb hby at_213) rfl ?_
    refine XS.lsub X9.here hx rfl (hb hby at_214) rfl ?_
    refine XS.lstore X9.here hx rfl (hb hby at_215) rfl (l' := #[.val (.int u0), .val (.int u1), .val (.int u2), .val (.int u3), .val (.int u4), .val (.int nk0), .val (.int nk), .val (.long lx0), .second, .val (.long ly0), .second, .val (.long lx1), .second, .val (.long ly1), .second, .val (.long lx2), .second, .val (.long ly2), .second, .val (.long lx3), .second, .val (.long ly3), .second, .val (.ref b7), .val (.ref b8), .val (.ref b9), .val (.long ((lx0 * ly1) - (lx1 * ly0))), .second, .val (.long ((lx1 * ly2) - (lx2 * ly1))), .second, .val (.long ((lx2 * ly0) - (lx0 * ly2))), .second, .val (.long ((lx2 * ly3) - (lx3 * ly2))), .second, .unset, .unset, .unset, .unset, .unset, .unset]) rfl ?_
    refine XS.lload X9.here hx rfl (hb hby at_217) rfl ?_
    refine XS.lload X9.here hx rfl (hb hby at_219) rfl ?_
    refine XS.lmul X9.here hx rfl (hb hby at_221) rfl ?_
    refine XS.lload X9.here hx rfl (hb hby at_222) rfl ?_
    refine XS.lload X9.here hx rfl (hb hby at_224) rfl ?_
    refine XS.lmul X9.here hx rfl (hb hby at_226) rfl ?_
    refine XS.lsub X9.here hx rfl (hb hby at_227) rfl ?_
    refine XS.lstore X9.here hx rfl (hb hby at_228) rfl (l' := #[.val (.int u0), .val (.int u1), .val (.int u2), .val (.int u3), .val (.int u4), .val (.int nk0), .val (.int nk), .val (.long lx0), .second, .val (.long ly0), .second, .val (.long lx1), .second, .val (.long ly1), .second, .val (.long lx2), .second, .val (.long ly2), .second, .val (.long lx3), .second, .val (.long ly3), .second, .val (.ref b7), .val (.ref b8), .val (.ref b9), .val (.long ((lx0 * ly1) - (lx1 * ly0))), .second, .val (.long ((lx1 * ly2) - (lx2 * ly1))), .second, .val (.long ((lx2 * ly0) - (lx0 * ly2))), .second, .val (.long ((lx2 * ly3) - (lx3 * ly2))), .second, .val (.long ((lx3 * ly0) - (lx0 * ly3))), .second, .unset, .unset, .unset, .unset]) rfl ?_
    refine st10 _ ?_
    show Steps p.tables e below (T9.setTop (mkF m 230 #[.val (.int u0), .val (.int u1), .val (.int u2), .val (.int u3), .val (.int u4), .val (.int nk0), .val (.int nk), .val (.long lx0), .second, .val (.long ly0), .second, .val (.long lx1), .second, .val (.long ly1), .second, .val (.long lx2), .second, .val (.long ly2), .second, .val (.long lx3), .second, .val (.long ly3), .second, .val (.ref b7), .val (.ref b8), .val (.ref b9), .val (.long c26), .second, .val (.long c28), .second, .val (.long c30), .second, .val (.long c32), .second, .val (.long c34), .second, .unset, .unset, .unset, .unset] [])) _
    refine XS.lconst X9.here hx rfl (hb hby at_230) ?_
    refine XS.lstore X9.here hx rfl (hb hby at_231) rfl (l' := #[.val (.int u0), .val (.int u1), .val (.int u2), .val (.int u3), .val (.int u4), .val (.int nk0), .val (.int nk), .val (.long lx0), .second, .val (.long ly0), .second, .val (.long lx1), .second, .val (.long ly1), .second, .val (.long lx2), .second, .val (.long ly2), .second, .val (.long lx3), .second, .val (.long ly3), .second, .val (.ref b7), .val (.ref b8), .val (.ref b9), .val (.long c26), .second, .val (.long c28), .second, .val (.long c30), .second, .val (.long c32), .second, .val (.long c34), .second, .val (.long (0 : Int64)), .second, .unset, .unset]) rfl ?_
    refine XS.iload X9.here hx rfl (hb hby at_233) rfl ?_
    refine XS.iconst X9.here hx rfl (hb hby at_235) ?_
    refine XS.icmpYes X9.here hx rfl (pc0 := 236) (pc' := 252) rfl (hb hby at_236) rfl (feq (by rw [hnk]; decide)).2 (by decide) (by decide) ?_
    refine XS.iload X9.here hx rfl (hb hby at_252) rfl ?_
    refine XS.iconst X9.here hx rfl (hb hby at_254) ?_
    refine XS.icmpNo X9.here hx rfl (hb hby at_255) rfl (teq hnk).2 ?_
    refine XS.lload X9.here hx rfl (hb hby at_258) rfl ?_
    refine XS.lload X9.here hx rfl (hb hby at_260) rfl ?_
    refine XS.ladd X9.here hx rfl (hb hby at_262) rfl ?_
    refine XS.lload X9.here hx rfl (hb hby at_263) rfl ?_
    refine XS.ladd X9.here hx rfl (hb hby at_265) rfl ?_
    refine XS.lload X9.here hx rfl (hb hby at_266) rfl ?_
    refine XS.ladd X9.here hx rfl (hb hby at_268) rfl ?_
    refine XS.lstore X9.here hx rfl (hb hby at_269) rfl (l' := #[.val (.int u0), .val (.int u1), .val (.int u2), .val (.int u3), .val (.int u4), .val (.int nk0), .val (.int nk), .val (.long lx0), .second, .val (.long ly0), .second, .val (.long lx1), .second, .val (.long ly1), .second, .val (.long lx2), .second, .val (.long ly2), .second, .val (.long lx3), .second, .val (.long ly3), .second, .val (.ref b7), .val (.ref b8), .val (.ref b9), .val (.long c26), .second, .val (.long c28), .second, .val (.long c30), .second, .val (.long c32), .second, .val (.long c34), .second, .val (.long (((c26 + c28) + c32) + c34)), .second, .unset, .unset]) rfl ?_
    refine XS.aload X9.here hx rfl (hb hby at_271) rfl rfl ?_
    refine st11 _ ?_
    show Steps p.tables e below (T11.setTop (mkF m 276 #[.val (.int u0), .val (.int u1), .val (.int u2), .val (.int u3), .val (.int u4), .val (.int nk0), .val (.int nk), .val (.long lx0), .second, .val (.long ly0), .second, .val (.long lx1), .second, .val (.long ly1), .second, .val (.long lx2), .second, .val (.long ly2), .second, .val (.long lx3), .second, .val (.long ly3), .second, .val (.ref b7), .val (.ref b8), .val (.ref b9), .val (.long c26), .second, .val (.long c28), .second, .val (.long c30), .second, .val (.long c32), .second, .val (.long c34), .second, .val (.long (((c26 + c28) + c32) + c34)), .second, .unset, .unset] [(.ref b11)])) _
    refine XS.astore X11.here hx rfl (hb hby at_276) rfl rfl (l' := #[.val (.int u0), .val (.int u1), .val (.int u2), .val (.int u3), .val (.int u4), .val (.int nk0), .val (.int nk), .val (.long lx0), .second, .val (.long ly0), .second, .val (.long lx1), .second, .val (.long ly1), .second, .val (.long lx2), .second, .val (.long ly2), .second, .val (.long lx3), .second, .val (.long ly3), .second, .val (.ref b7), .val (.ref b8), .val (.ref b9), .val (.long c26), .second, .val (.long c28), .second, .val (.long c30), .second, .val (.long c32), .second, .val (.long c34), .second, .val (.long (((c26 + c28) + c32) + c34)), .second, .val (.ref b11), .unset]) rfl ?_
    refine XS.aload X11.here hx rfl (hb hby at_278) rfl rfl ?_
    refine XS.aload X11.here hx rfl (hb hby at_280) rfl rfl ?_
    refine st12 _ ?_
    show Steps p.tables e below (T12.setTop (mkF m 285 #[.val (.int u0), .val (.int u1), .val (.int u2), .val (.int u3), .val (.int u4), .val (.int nk0), .val (.int nk), .val (.long lx0), .second, .val (.long ly0), .second, .val (.long lx1), .second, .val (.long ly1), .second, .val (.long lx2), .second, .val (.long ly2), .second, .val (.long lx3), .second, .val (.long ly3), .second, .val (.ref b7), .val (.ref b8), .val (.ref b9), .val (.long c26), .second, .val (.long c28), .second, .val (.long c30), .second, .val (.long c32), .second, .val (.long c34), .second, .val (.long (((c26 + c28) + c32) + c34)), .second, .val (.ref b11), .unset] [(.int (1 : Int32))])) _
    refine XS.istore X12.here hx rfl (hb hby at_285) rfl (l' := #[.val (.int u0), .val (.int u1), .val (.int u2), .val (.int u3), .val (.int u4), .val (.int nk0), .val (.int nk), .val (.long lx0), .second, .val (.long ly0), .second, .val (.long lx1), .second, .val (.long ly1), .second, .val (.long lx2), .second, .val (.long ly2), .second, .val (.long lx3), .second, .val (.long ly3), .second, .val (.ref b7), .val (.ref b8), .val (.ref b9), .val (.long c26), .second, .val (.long c28), .second, .val (.long c30), .second, .val (.long c32), .second, .val (.long c34), .second, .val (.long (((c26 + c28) + c32) + c34)), .second, .val (.ref b11), .val (.int (1 : Int32))]) rfl ?_
    refine XS.lload X12.here hx rfl (hb hby at_287) rfl ?_
    refine XS.lconst X12.here hx rfl (hb hby at_289) ?_
    refine XS.lcmp X12.here hx rfl (hb hby at_290) rfl ?_
    refine XS.ifYes X12.here hx rfl (pc0 := 291) (pc' := 312) rfl (hb hby at_291) rfl ((if0 _ _).trans (tlt (by rw [ec26, ec28, ec32, ec34]; exact hA)).1) (by decide) (by decide) ?_
    refine XS.aload X12.here hx rfl (hb hby at_312) rfl rfl ?_
    refine XS.aload X12.here hx rfl (hb hby at_314) rfl rfl ?_
    show Steps p.tables e below (T12.setTop (mkF m 316 #[.val (.int u0), .val (.int u1), .val (.int u2), .val (.int u3), .val (.int u4), .val (.int nk0), .val (.int nk), .val (.long lx0), .second, .val (.long ly0), .second, .val (.long lx1), .second, .val (.long ly1), .second, .val (.long lx2), .second, .val (.long ly2), .second, .val (.long lx3), .second, .val (.long ly3), .second, .val (.ref b7), .val (.ref b8), .val (.ref b9), .val (.long c26), .second, .val (.long c28), .second, .val (.long c30), .second, .val (.long c32), .second, .val (.long c34), .second, .val (.long (((c26 + c28) + c32) + c34)), .second, .val (.ref b11), .val (.int (1 : Int32))] [(.ref b7), (.ref b11)])) _
    refine Jvm.RoadKit.acmp (g := (mkF m 316 #[.val (.int u0), .val (.int u1), .val (.int u2), .val (.int u3), .val (.int u4), .val (.int nk0), .val (.int nk), .val (.long lx0), .second, .val (.long ly0), .second, .val (.long lx1), .second, .val (.long ly1), .second, .val (.long lx2), .second, .val (.long ly2), .second, .val (.long lx3), .second, .val (.long ly3), .second, .val (.ref b7), .val (.ref b8), .val (.ref b9), .val (.long c26), .second, .val (.long c28), .second, .val (.long c30), .second, .val (.long c32), .second, .val (.long c34), .second, .val (.long (((c26 + c28) + c32) + c34)), .second, .val (.ref b11), .val (.int (1 : Int32))] [(.ref b7), (.ref b11)])) X12 hx rfl rfl rfl (pc0 := 316) (pc' := 319) (same := false) rfl (hb hby at_316) rfl (decide_eq_false fun q => (Ne.symm (Nat.ne_of_lt (Nat.lt_of_lt_of_le ((V7.keep K8 nin0).keep K9 nin0).lt (Nat.le_of_eq g11.symm)))) (Value.ref.inj q)) (by decide) (by decide) ?_
    show Steps p.tables e below (T12.setTop (mkF m 319 #[.val (.int u0), .val (.int u1), .val (.int u2), .val (.int u3), .val (.int u4), .val (.int nk0), .val (.int nk), .val (.long lx0), .second, .val (.long ly0), .second, .val (.long lx1), .second, .val (.long ly1), .second, .val (.long lx2), .second, .val (.long ly2), .second, .val (.long lx3), .second, .val (.long ly3), .second, .val (.ref b7), .val (.ref b8), .val (.ref b9), .val (.long c26), .second, .val (.long c28), .second, .val (.long c30), .second, .val (.long c32), .second, .val (.long c34), .second, .val (.long (((c26 + c28) + c32) + c34)), .second, .val (.ref b11), .val (.int (1 : Int32))] [])) _
    refine XS.iload X12.here hx rfl (hb hby at_319) rfl ?_
    refine XS.ifNo X12.here hx rfl (hb hby at_321) rfl ((if0 _ _).trans (feq (by decide)).1) ?_
    refine XS.aload X12.here hx rfl (hb hby at_324) rfl rfl ?_
    refine XS.aload X12.here hx rfl (hb hby at_326) rfl rfl ?_
    refine st13 _ ?_
    show Steps p.tables e below (T13.setTop (mkF m 331 #[.val (.int u0), .val (.int u1), .val (.int u2), .val (.int u3), .val (.int u4), .val (.int nk0), .val (.int nk), .val (.long lx0), .second, .val (.long ly0), .second, .val (.long lx1), .second, .val (.long ly1), .second, .val (.long lx2), .second, .val (.long ly2), .second, .val (.long lx3), .second, .val (.long ly3), .second, .val (.ref b7), .val (.ref b8), .val (.ref b9), .val (.long c26), .second, .val (.long c28), .second, .val (.long c30), .second, .val (.long c32), .second, .val (.long c34), .second, .val (.long (((c26 + c28) + c32) + c34)), .second, .val (.ref b11), .val (.int (1 : Int32))] [(.int (1 : Int32))])) _
    refine XS.ifNo X13.here hx rfl (hb hby at_331) rfl ((if0 _ _).trans (feq (by decide)).1) ?_
    refine XS.iconst X13.here hx rfl (hb hby at_334) ?_
    refine XS.goto X13.here hx rfl (pc0 := 335) (pc' := 339) rfl (hb hby at_335) (by decide) (by decide) ?_
    show Steps p.tables e below (T13.setTop (mkF m 339 #[.val (.int u0), .val (.int u1), .val (.int u2), .val (.int u3), .val (.int u4), .val (.int nk0), .val (.int nk), .val (.long lx0), .second, .val (.long ly0), .second, .val (.long lx1), .second, .val (.long ly1), .second, .val (.long lx2), .second, .val (.long ly2), .second, .val (.long lx3), .second, .val (.long ly3), .second, .val (.ref b7), .val (.ref b8), .val (.ref b9), .val (.long c26), .second, .val (.long c28), .second, .val (.long c30), .second, .val (.long c32), .second, .val (.long c34), .second, .val (.long (((c26 + c28) + c32) + c34)), .second, .val (.ref b11), .val (.int (1 : Int32))] [(.int (1 : Int32))])) _
    exact retN X13 hx (t := .boolean) Bd.returns (by simp) (hb hby at_339) hr
  · show QL4n Z u0 u1 u2 u3 u4 h0 n0 _ T13.heap _
    rw [e13]
    exact ⟨rfl, N13⟩
theorem rm0 (l : Launch) (Z : State) (a0 : Array Value) (hw : ∀ d ∈ tables_1, d.before a0 Z = true) (ws : List Jvm.Cond) (u0 u1 u2 u3 u4 : Int32) (h0 : Heap) (n0 : Nat) (Z0 : n0 ≤ h0.size) :
    MetFree l x (head1 (Jvm.Cond.code x code maxLocals ret :: ws) room_1) (fun a U => a = #[(.int u0), (.int u1), (.int u2), (.int u3), (.int u4)] ∧ Z.Warmed39 U.vm ∧ U.heap = h0) (fun _ _ _ _ _ => True) (fun _ U o U' => ∃ v L, o = .returned v ∧ QL0 Z u0 u1 u2 u3 u4 h0 n0 v U'.heap L ∧ FrameEnd U o U' L room_1.cells room_1.slots) := by
  rcases own_m7 u4 with hk | hk | hk | hk | hk
  · exact rmL0 l Z a0 hw ws u0 u1 u2 u3 u4 h0 n0 Z0 hk
  · exact rmL1 l Z a0 hw ws u0 u1 u2 u3 u4 h0 n0 Z0 hk
  · exact rmL2 l Z a0 hw ws u0 u1 u2 u3 u4 h0 n0 Z0 hk
  · by_cases hA : lcmpW ((((((u0 >>> ((16 : Int32) &&& 31)).toInt64) * ((u1.toInt16.toInt32).toInt64)) - (((u1 >>> ((16 : Int32) &&& 31)).toInt64) * ((u0.toInt16.toInt32).toInt64))) + ((((u1 >>> ((16 : Int32) &&& 31)).toInt64) * ((u2.toInt16.toInt32).toInt64)) - (((u2 >>> ((16 : Int32) &&& 31)).toInt64) * ((u1.toInt16.toInt32).toInt64)))) + ((((u2 >>> ((16 : Int32) &&& 31)).toInt64) * ((u0.toInt16.toInt32).toInt64)) - (((u0 >>> ((16 : Int32) &&& 31)).toInt64) * ((u2.toInt16.toInt32).toInt64)))) (0 : Int64) < 0
    · exact rmL3n l Z a0 hw ws u0 u1 u2 u3 u4 h0 n0 Z0 hk hA
    · exact rmL3 l Z a0 hw ws u0 u1 u2 u3 u4 h0 n0 Z0 hk hA
  · by_cases hA : lcmpW (((((((u0 >>> ((16 : Int32) &&& 31)).toInt64) * ((u1.toInt16.toInt32).toInt64)) - (((u1 >>> ((16 : Int32) &&& 31)).toInt64) * ((u0.toInt16.toInt32).toInt64))) + ((((u1 >>> ((16 : Int32) &&& 31)).toInt64) * ((u2.toInt16.toInt32).toInt64)) - (((u2 >>> ((16 : Int32) &&& 31)).toInt64) * ((u1.toInt16.toInt32).toInt64)))) + ((((u2 >>> ((16 : Int32) &&& 31)).toInt64) * ((u3.toInt16.toInt32).toInt64)) - (((u3 >>> ((16 : Int32) &&& 31)).toInt64) * ((u2.toInt16.toInt32).toInt64)))) + ((((u3 >>> ((16 : Int32) &&& 31)).toInt64) * ((u0.toInt16.toInt32).toInt64)) - (((u0 >>> ((16 : Int32) &&& 31)).toInt64) * ((u3.toInt16.toInt32).toInt64)))) (0 : Int64) < 0
    · exact rmL4n l Z a0 hw ws u0 u1 u2 u3 u4 h0 n0 Z0 hk hA
    · exact rmL4 l Z a0 hw ws u0 u1 u2 u3 u4 h0 n0 Z0 hk hA
set_option maxRecDepth 65536 in
set_option maxHeartbeats 40000000 in
theorem comes_1 {Post : Tables → Env → Array Value → State → Outcome → State → Prop} (hpost : ∀ tb e args s v u, (limb_1_1.after args s (.returned v) u = true ∧ limb_1_2.after args s (.returned v) u = true ∧ True) → FrameEnd s (.returned v) u (Jvm.fieldLocs frame_1_writes args s ++ Jvm.arrayLocs frame_1_arrays args s ++ Jvm.staticLocs frame_1_statics s) 16 128 → Post tb e args s (.returned v) u) :
    ArmFor flags0 classFile x code maxLocals ret World_1 tables_1 room_1 Calls_1 rest_1 Pre_1 Post := by
  intro l hfl _ _ p e ha hc hk s m args below hf hA hF happ hP
  obtain ⟨hcalls, hrest, hpre⟩ := hP
  obtain ⟨-, -, -, hnamed, -, -, -, hat⟩ := (Spec.applies_iff hf).mp happ
  obtain ⟨hg, hn⟩ := and_e (Cond.before_iff.mp (show (Jvm.Cond.and given_1 narrow_1).before args s = true from hpre))
  obtain ⟨g1, g2⟩ := and_e hg
  obtain ⟨g3, g4⟩ := and_e g2
  obtain ⟨g5, g6⟩ := and_e g4
  obtain ⟨g7, g8⟩ := and_e g6
  obtain ⟨g9, g10⟩ := and_e g8
  obtain ⟨w0, w1, w2, w3, w4, rfl⟩ : ∃ w0 w1 w2 w3 w4 : Value, args = #[w0, w1, w2, w3, w4] := by
    have hs : args.size = 5 := by simpa [Cond.value, given_1] using g1
    obtain ⟨L⟩ := args
    match L, hs with
    | [w0, w1, w2, w3, w4], _ => exact ⟨w0, w1, w2, w3, w4, rfl⟩
  have hw := fun d (hd : d ∈ tables_1) => atoms_spec (ws := Jvm.Cond.code x code maxLocals ret :: tables_1) hat d (List.mem_cons_of_mem _ hd)
  have hfit : Fit s := fun {y c} hc i hi => by
    obtain ⟨ha, rfl⟩ := Array.getElem?_eq_some_iff.mp hc
    have q := List.all_eq_true.mp ((Array.all_eq_true_iff_forall_mem.mp hF) _ (Array.getElem_mem ha)) i (List.mem_range.mpr hi)
    simpa [Array.getElem?_eq_getElem hi] using q
  obtain ⟨i0, ei0⟩ := is_v g3
  obtain rfl : w0 = (.int i0) := Option.some.inj ei0
  obtain ⟨i1, ei1⟩ := is_v g5
  obtain rfl : w1 = (.int i1) := Option.some.inj ei1
  obtain ⟨i2, ei2⟩ := is_v g7
  obtain rfl : w2 = (.int i2) := Option.some.inj ei2
  obtain ⟨i3, ei3⟩ := is_v g9
  obtain rfl : w3 = (.int i3) := Option.some.inj ei3
  obtain ⟨i4, ei4⟩ := is_v g10
  obtain rfl : w4 = (.int i4) := Option.some.inj ei4
  obtain ⟨n, o, h1, h2, h3, _, L, rfl, ⟨rfl, N⟩, hq⟩ := rm0 l s _ hw tables_1 i0 i1 i2 i3 i4 s.heap s.heap.size (Nat.le_refl _)  p e ha hc hk s m _ below hf ((Spec.applies_iff_loose hf).mp happ).1 ⟨rfl, State.Warmed39.refl s, rfl⟩ trivial
  refine ⟨n, _, h1, h2, h3, hpost _ _ _ _ _ _ ⟨Cond.after_iff.mpr rfl, Cond.after_iff.mpr (eq_i res_at (Term.int_eval (1)) rfl), trivial⟩ ⟨hq.1, hq.2.1, (hq.2.2.sift fun y hy => Or.inr (N y hy)).mono (by decide) (by decide)⟩⟩
theorem main_1_1 : Claimed_1_1 := comes_1 fun _ _ _ _ _ _ h hF => ⟨h.1, hF⟩
theorem main_1_2 : Claimed_1_2 := comes_1 fun _ _ _ _ _ _ h hF => ⟨h.2.1, hF⟩
end Jvm.Pilot.@@N@@
namespace Jvm.Pilot.@@N@@
open Jvm Jvm.ClassFile Sem Op Lib Jvm.Free Jvm.Stand Jvm.Pilot.@@N@@.Jvm.D
/-! MADE BY PROGRAM (witnessworld.py) out of the Statement's table words and the real class files: 11 classes; the members and pool entries that the words name. The judged class is class 1, her method 1. -/
namespace start1
open Jvm.ClassFile
def u (s : String) : CpInfo := .utf8 (stringToUtf16 s)
/-- a pool by its gaps: so many unusable entries, then the entry; so many at the end -/
def gap : Nat → List CpInfo → List CpInfo
  | 0, r => r
  | n + 1, r => .unusable :: gap n r
def poolList (es : List (Nat × CpInfo)) (last : Nat) : List CpInfo := es.foldr (fun e r => gap e.1 (e.2 :: r)) (gap last [])
def pool (es : List (Nat × CpInfo)) (last : Nat) : Array CpInfo := ⟨poolList es last⟩
def fileOf (pool : Array CpInfo) (this : Nat) (attrs : Array Attribute := #[]) (ms : Array MethodInfo := #[]) (fl : Nat := 33) (sup : Nat := 0) (ifs : Array Nat := #[]) (fds : Array FieldInfo := #[]) : ClassFile where
  minorVersion := 0
  majorVersion := 65
  constantPool := pool
  accessFlags := fl
  thisClass := this
  superClass := sup
  interfaces := ifs
  fields := fds
  methods := ms
  attributes := attrs
def plain (name : String) (sup : Option ClassId) : Class where
  name := name
  kind := .ordinary
  loader := none
  accessFlags := 33
  super := sup
  interfaces := #[]
  cf := none
  fields := #[]
  methods := #[]
  instanceTypes := #[]
  staticTypes := #[]
  resolved := #[]
  callSites := []
  init := .initialized
  statics := none
  mirror := none

def pool0 : Array CpInfo := pool [(5, u "<init>"), (0, u "()V"), (1, .class_ 10), (1, u "java/lang/Object")] 113

def k0m0 : Method := { name := "<init>", desc := "()V", sig := { parameters := [], returnType := none }, accessFlags := 1, code := none }
/-- java/lang/Object -/
def k0 : Class := { plain "java/lang/Object" none with
  accessFlags := 33
  interfaces := #[]
  cf := some (fileOf pool0 8 #[] #[{ accessFlags := 1, nameIndex := 5, descriptorIndex := 6, attributes := #[] }] 33 0 #[] #[])
  fields := #[]
  methods := #[k0m0]
  instanceTypes := #[]
  staticTypes := #[]
  resolved := Array.replicate 124 none
  statics := none }

def pool1 : Array CpInfo := pool [(2, .class_ 4), (1, u "java/lang/Object"), (0, u "<init>"), (0, u "()V"), (0, .methodref 8 9), (0, .class_ 10), (0, .nameAndType 11 12), (0, u "com/example/decorum/decorum/graphics/RasterizerClockwisePinLaw"), (0, u "build"), (0, u "(IJJJJJJJJ)[D"), (0, .methodref 14 15), (0, .class_ 16), (0, .nameAndType 17 18), (0, u "com/example/decorum/decorum/graphics/Rasterizer"), (0, u "clockwise"), (0, u "([D)[D"), (0, .methodref 8 20), (0, .nameAndType 21 22), (0, u "same"), (0, u "([D[D)Z"), (2, u "law"), (0, u "(IIIII)Z")] 5

def k1m0 : Method := { name := "<init>", desc := "()V", sig := { parameters := [], returnType := none }, accessFlags := 2, code := none }
def k1c1 : Code := { maxStack := 17, maxLocals := 40, code := code, exceptionTable := #[], attributes := #[] }
def k1m1 : Method := { name := "law", desc := "(IIIII)Z", sig := { parameters := [.int, .int, .int, .int, .int], returnType := some .boolean }, accessFlags := 9, code := some k1c1 }
def k1c2 : Code := { maxStack := 5, maxLocals := 17, code := method_3_code, exceptionTable := #[], attributes := #[] }
def k1m2 : Method := { name := "build", desc := "(IJJJJJJJJ)[D", sig := { parameters := [.int, .long, .long, .long, .long, .long, .long, .long, .long], returnType := some (.array .double) }, accessFlags := 10, code := some k1c2 }
def k1c3 : Code := { maxStack := 4, maxLocals := 3, code := method_4_code, exceptionTable := #[], attributes := #[] }
def k1m3 : Method := { name := "same", desc := "([D[D)Z", sig := { parameters := [(.array .double), (.array .double)], returnType := some .boolean }, accessFlags := 10, code := some k1c3 }
/-- com/example/decorum/decorum/graphics/RasterizerClockwisePinLaw -/
def k1 : Class := { plain "com/example/decorum/decorum/graphics/RasterizerClockwisePinLaw" (some 0) with
  accessFlags := 49
  interfaces := #[]
  cf := some (fileOf pool1 8 #[] #[{ accessFlags := 2, nameIndex := 5, descriptorIndex := 6, attributes := #[] }, { accessFlags := 9, nameIndex := 25, descriptorIndex := 26, attributes := #[] }, { accessFlags := 10, nameIndex := 11, descriptorIndex := 12, attributes := #[] }, { accessFlags := 10, nameIndex := 21, descriptorIndex := 22, attributes := #[] }] 49 2 #[] #[])
  fields := #[]
  methods := #[k1m0, k1m1, k1m2, k1m3]
  instanceTypes := #[]
  staticTypes := #[]
  resolved := Array.replicate 32 none
  statics := none }

def pool2 : Array CpInfo := pool [(2, .class_ 4), (1, u "java/lang/Object"), (0, u "<init>"), (0, u "()V"), (1, .class_ 10), (1, u "com/example/decorum/decorum/graphics/Rasterizer"), (27, .class_ 39), (0, u "com/example/decorum/decorum/graphics/Rasterizer$Edge"), (24, .class_ 66), (1, u "com/example/decorum/decorum/graphics/Rasterizer$Area"), (29, .class_ 97), (0, u "com/example/decorum/decorum/graphics/Rasterizer$Row"), (3, .class_ 102), (0, u "com/example/decorum/decorum/graphics/Rasterizer$Crossings"), (112, .class_ 217), (1, u "com/example/decorum/decorum/graphics/Rasterizer$Sink"), (14, u "SAMPLES_PER_ROW"), (0, u "I"), (8, u "clockwise"), (0, u "([D)[D")] 40

def k2m0 : Method := { name := "<init>", desc := "()V", sig := { parameters := [], returnType := none }, accessFlags := 2, code := none }
def k2c1 : Code := { maxStack := 9, maxLocals := 6, code := prog_81_method_4_code, exceptionTable := #[], attributes := #[] }
def k2m1 : Method := { name := "clockwise", desc := "([D)[D", sig := { parameters := [(.array .double)], returnType := some (.array .double) }, accessFlags := 8, code := some k2c1 }
/-- com/example/decorum/decorum/graphics/Rasterizer -/
def k2 : Class := { plain "com/example/decorum/decorum/graphics/Rasterizer" (some 0) with
  accessFlags := 32
  interfaces := #[]
  cf := some (fileOf pool2 8 #[.nestMembers #[96, 101, 38, 64, 215]] #[{ accessFlags := 2, nameIndex := 5, descriptorIndex := 6, attributes := #[] }, { accessFlags := 8, nameIndex := 242, descriptorIndex := 243, attributes := #[] }] 32 2 #[] #[{ accessFlags := 26, nameIndex := 232, descriptorIndex := 233, attributes := #[] }])
  fields := #[{ name := "SAMPLES_PER_ROW", type := .int, accessFlags := 26, slot := 0, constantValue := 0 }]
  methods := #[k2m0, k2m1]
  instanceTypes := #[]
  staticTypes := #[.int]
  resolved := Array.replicate 284 none
  statics := none }

def pool3 : Array CpInfo := pool [(1, u "java/lang/Cloneable"), (0, .class_ 1), (0, u "java/lang/Object"), (0, .class_ 3)] 3

/-- java/lang/Cloneable -/
def k3 : Class := { plain "java/lang/Cloneable" (some 0) with
  accessFlags := 1537
  interfaces := #[]
  cf := some (fileOf pool3 2 #[] #[] 1537 4 #[] #[])
  fields := #[]
  methods := #[]
  instanceTypes := #[]
  staticTypes := #[]
  resolved := Array.replicate 8 none
  statics := none }

def pool4 : Array CpInfo := pool [(1, u "java/io/Serializable"), (0, .class_ 1), (0, u "java/lang/Object"), (0, .class_ 3)] 3

/-- java/io/Serializable -/
def k4 : Class := { plain "java/io/Serializable" (some 0) with
  accessFlags := 1537
  interfaces := #[]
  cf := some (fileOf pool4 2 #[] #[] 1537 4 #[] #[])
  fields := #[]
  methods := #[]
  instanceTypes := #[]
  staticTypes := #[]
  resolved := Array.replicate 8 none
  statics := none }

/-- the primitive byte -/
def k5 : Class := { plain "byte" none with kind := .primitive 'B', accessFlags := 0x411 }
/-- [B -/
def k6 : Class := { plain "[B" (some 0) with kind := .array 5 .byte, interfaces := #[3, 4], accessFlags := 1041 }

/-- the primitive double -/
def k7 : Class := { plain "double" none with kind := .primitive 'D', accessFlags := 0x411 }
/-- [D -/
def k8 : Class := { plain "[D" (some 0) with kind := .array 7 .double, interfaces := #[3, 4], accessFlags := 1041 }

/-- the primitive int -/
def k9 : Class := { plain "int" none with kind := .primitive 'I', accessFlags := 0x411 }
/-- [I -/
def k10 : Class := { plain "[I" (some 0) with kind := .array 9 .int, interfaces := #[3, 4], accessFlags := 1041 }

def heap : Heap := #[]
def classes : Array Class := #[k0, k1, k2, k3, k4, k5, k6, k7, k8, k9, k10]
def interned : List (Array UInt16 × Addr) := []
def slotsUsed : Nat := 0
def theMethod : MethodId := ⟨1, 1⟩
def args0 : Array Value := #[.int 5, .int 5, .int 5, .int 5, .int 5]
def aboutOver (below : List Frame) : State where
  vm := { classes := classes, interned := interned.toArray }
  heap := heap
  slotsUsed := slotsUsed
  threads := #[{ frames := .invoking theMethod args0 :: below }]
def below0 : List Frame := [.native { method := ⟨0, 0⟩, args := #[] }]
def about1 : State := aboutOver below0
def p0 : Program := .bare "" "" ""
def e0 : Env := launch0.env 0 0 0
theorem w_frames : about1.frames = Frame.invoking theMethod args0 :: below0 := rfl
set_option maxRecDepth 65536 in
theorem w_args : argsFit about1.vm theMethod args0 = true := by decide +kernel
set_option maxRecDepth 65536 in
theorem w_heap : heapFits about1 = true := by decide +kernel
set_option maxRecDepth 65536 in
theorem w_runnable : about1.curStatus? = some .runnable := by decide +kernel
set_option maxRecDepth 65536 in
theorem w_alone : about1.alone = true := by decide +kernel
set_option maxRecDepth 65536 in
theorem w_named : about1.methodNamed? x = some theMethod := by decide +kernel
set_option maxRecDepth 65536 in
theorem w_hears : about1.hears theMethod below0 = true := by decide +kernel
set_option maxRecDepth 65536 in
theorem w_ripe : about1.ripe theMethod args0 below0 = true := by decide +kernel
theorem w_running : about1.status = .running := rfl
set_option maxRecDepth 65536 in
theorem w_room : about1.hasRoom e0.platform room_1 = true :=
  launch0.hasRoom_least _ room_1 (by decide +kernel) (by decide +kernel) (by decide +kernel) (by decide +kernel) (by decide +kernel) (by decide +kernel)
theorem allAtoms_all (ts : List Jvm.Cond) (a : Array Jvm.Value) (st : Jvm.State) : (allAtoms ts).before a st = ts.all (fun c => c.before a st) := by
  induction ts with
  | nil => rfl
  | cons c t ih =>
    show (Jvm.Cond.and c (allAtoms t)).before a st = _
    rw [Jvm.Cond.before_and, ih, List.all_cons]
def words1 : List Jvm.Cond := Jvm.Cond.code x code maxLocals ret :: tables_1
/-- a 'code' word, met by the world's own term for the bytes: nothing is compared byte by byte -/
theorem code_word {y : MethodName} {bytes : ByteArray} {mx : Nat} {rt : Option FieldType} {a : Array Value} {s : State} {m : MethodId} {meth : Method} {c : Code} (h1 : s.methodNamed? y = some m) (h2 : s.vm.method? m = some meth) (h3 : meth.code = some c) (h4 : c.code = bytes)
    (h5 : (c.maxLocals == mx && c.exceptionTable.isEmpty && decide (c.maxStack ≤ mostOperands) && decide (meth.sig.returnType = rt) && !meth.locks && decide (parseMethodDescriptor y.desc = some meth.sig)) = true) : (Jvm.Cond.code y bytes mx rt).before a s = true := by
  simp only [Bool.and_eq_true, beq_iff_eq, Bool.not_eq_true', decide_eq_true_eq] at h5
  obtain ⟨⟨⟨⟨⟨g1, g2⟩, g3⟩, g4⟩, g5⟩, g6⟩ := h5
  simp [Cond.before, Cond.holds, Cond.value, h1, h2, h3, h4, g1, g2, g3, g4, g5, g6]
def isCode : Jvm.Cond → Bool
  | .code _ _ _ _ => true
  | _ => false
theorem all_split {L : List Jvm.Cond} {P : Jvm.Cond → Bool} (h1 : L.all (fun c => isCode c || P c) = true) (h2 : ∀ c ∈ L.filter isCode, P c = true) : L.all P = true := by
  refine List.all_eq_true.mpr fun c hc => ?_
  have h := List.all_eq_true.mp h1 c hc
  rcases Bool.eq_false_or_eq_true (isCode c) with hi | hi
  · exact h2 c (List.mem_filter.mpr ⟨hc, hi⟩)
  · simpa [hi] using h
set_option maxRecDepth 65536 in
theorem w_c0 : (Jvm.Cond.code x code maxLocals ret).before args0 about1 = true := code_word (m := ⟨1, 1⟩) (meth := k1m1) (c := k1c1) (by decide +kernel) rfl rfl rfl (by decide +kernel)
set_option maxRecDepth 65536 in
theorem w_c1 : (Jvm.Cond.code ({ cls := "com/example/decorum/decorum/graphics/RasterizerClockwisePinLaw", name := "build", desc := "(IJJJJJJJJ)[D" } : Jvm.MethodName) method_3_code (17 : Nat) (Option.some (Jvm.ClassFile.FieldType.array Jvm.ClassFile.FieldType.double))).before args0 about1 = true := code_word (m := ⟨1, 2⟩) (meth := k1m2) (c := k1c2) (by decide +kernel) rfl rfl rfl (by decide +kernel)
set_option maxRecDepth 65536 in
theorem w_c2 : (Jvm.Cond.code ({ cls := "com/example/decorum/decorum/graphics/Rasterizer", name := "clockwise", desc := "([D)[D" } : Jvm.MethodName) prog_81_method_4_code (6 : Nat) (Option.some (Jvm.ClassFile.FieldType.array Jvm.ClassFile.FieldType.double))).before args0 about1 = true := code_word (m := ⟨2, 1⟩) (meth := k2m1) (c := k2c1) (by decide +kernel) rfl rfl rfl (by decide +kernel)
set_option maxRecDepth 65536 in
theorem w_c3 : (Jvm.Cond.code ({ cls := "com/example/decorum/decorum/graphics/RasterizerClockwisePinLaw", name := "same", desc := "([D[D)Z" } : Jvm.MethodName) method_4_code (3 : Nat) (Option.some Jvm.ClassFile.FieldType.boolean)).before args0 about1 = true := code_word (m := ⟨1, 3⟩) (meth := k1m3) (c := k1c3) (by decide +kernel) rfl rfl rfl (by decide +kernel)
def codes1 : List Jvm.Cond := [Jvm.Cond.code x code maxLocals ret, Jvm.Cond.code ({ cls := "com/example/decorum/decorum/graphics/RasterizerClockwisePinLaw", name := "build", desc := "(IJJJJJJJJ)[D" } : Jvm.MethodName) method_3_code (17 : Nat) (Option.some (Jvm.ClassFile.FieldType.array Jvm.ClassFile.FieldType.double)), Jvm.Cond.code ({ cls := "com/example/decorum/decorum/graphics/Rasterizer", name := "clockwise", desc := "([D)[D" } : Jvm.MethodName) prog_81_method_4_code (6 : Nat) (Option.some (Jvm.ClassFile.FieldType.array Jvm.ClassFile.FieldType.double)), Jvm.Cond.code ({ cls := "com/example/decorum/decorum/graphics/RasterizerClockwisePinLaw", name := "same", desc := "([D[D)Z" } : Jvm.MethodName) method_4_code (3 : Nat) (Option.some Jvm.ClassFile.FieldType.boolean)]
set_option maxRecDepth 65536 in
theorem codes_eq : words1.filter isCode = codes1 := rfl
theorem w_codes : ∀ c ∈ words1.filter isCode, c.before args0 about1 = true := by
  rw [codes_eq]
  intro c hc
  simp only [codes1, List.mem_cons, List.not_mem_nil, or_false] at hc
  rcases hc with rfl | rfl | rfl | rfl
  · exact w_c0
  · exact w_c1
  · exact w_c2
  · exact w_c3
set_option maxRecDepth 65536 in
theorem w_t1 : words1.all (fun c => isCode c || c.before args0 about1) = true := by decide +kernel
theorem w_tables : (allAtoms (Jvm.Cond.code x code maxLocals ret :: tables_1)).before args0 about1 = true := by
  rw [allAtoms_all]
  show words1.all (fun c => c.before args0 about1) = true
  refine all_split ?_ w_codes
  rw [w_t1]
set_option maxRecDepth 65536 in
theorem w_case : (Jvm.Cond.and given_1 narrow_1).before args0 about1 = true := by decide +kernel
theorem w_applies : (headSpec (Jvm.Cond.code x code maxLocals ret :: tables_1) room_1).applies x e0.platform about1 = true :=
  (Spec.applies_iff w_frames).mpr ⟨w_running, w_runnable, w_alone, w_named, w_hears, w_ripe, w_room, w_tables⟩
theorem atStart : AtStart classFile x code maxLocals ret World_1 tables_1 room_1 Calls_1 rest_1 Pre_1 launch0 p0 e0 about1 theMethod args0 below0 :=
  ⟨lists_1, trivial, launch0.admits_env _ _ _, launch0.least_env, fairChoices_fair.cas, fairChoices_fair.clock, w_frames, w_args, w_heap, w_applies, trivial, trivial, w_case⟩
end start1
theorem witness_1 : WitnessClaimed_1 := ⟨start1.p0, start1.e0, start1.about1, start1.theMethod, start1.args0, start1.below0, start1.atStart⟩
end Jvm.Pilot.@@N@@
