import JvmDerived
import JvmDerived.Pilot.@@N@@Statement
import JvmDerived.Pilot.@@N@@Code
set_option linter.unusedVariables false
set_option linter.unusedSimpArgs false

namespace Jvm.RoadKit
open Sem ClassFile Op Lib Jvm.Stand Jvm.Free Jvm.LawKit
section New
variable {p : Program} {l : Launch} {e : Env} {R : Room} {s : State} {m : MethodId} {args : Array Value} {below : List Frame} {meth : Method} {c : Code} {T : State} {locs : List Loc} {cells slots : Nat}
theorem retI (X : Stand p l e R s m args below meth c T locs cells slots) (hx : p.tables.exec = Jvm.exec) {pc : Nat} {Ls : Array Slot} {z : Int32} {rest : List Value} (hret : meth.sig.returnType = some .int) (hd : decode c.code pc = .ok (.ireturn, 1)) {fs : List Frame}
    (hl : ∀ (f : JFrame) (acts : List Action), f.method = m → f.locked = none → f.entered = [] → (doReturn e (T.setTop f) acts (some (.int z))).1 = T.setFrames fs) : Steps p.tables e below (T.setTop (mkF m pc Ls (.int z :: rest))) (T.setFrames fs) := by
  have hm' : T.vm.method? m = some meth := X.method'
  have hn : narrow .int (.int z) = .int z := rfl
  show Steps p.tables e below (T.setTop { method := m, pc := pc, locals := Ls, stack := _ :: rest, locked := none }) _
  jvm_step X.here [X.here.top, hx, hd, hm', hret, hn]
  first | (intro acts; rw [hl _ acts rfl rfl rfl]) | rw [hl _ _ rfl rfl rfl]
  exact Steps.refl _
end New
end Jvm.RoadKit
namespace Jvm.Pilot.@@N@@
open Jvm Jvm.ClassFile Sem Op Lib Jvm.Free Jvm.Stand Jvm.LawKit Jvm.RoadKit Bundle Jvm.Pilot.@@N@@.Jvm.D
def cnt (u : Int32) : Int32 := if (8 : Int32) < u then 0 else u
theorem cnt_le (u : Int32) : ¬ (8 : Int32) < cnt u := by
  unfold cnt
  split
  · decide
  · assumption
theorem d2_0 : decode prog_28_method_1_code 0 = .ok (.aload_n 0, 1) := by decide +kernel
theorem d2_1 : decode prog_28_method_1_code 1 = .ok (.invokespecial 5, 3) := by decide +kernel
theorem d2_4 : decode prog_28_method_1_code 4 = .ok (.aload_n 0, 1) := by decide +kernel
theorem d2_5 : decode prog_28_method_1_code 5 = .ok (.fload_n 2, 1) := by decide +kernel
theorem d2_6 : decode prog_28_method_1_code 6 = .ok (.putfield 11, 3) := by decide +kernel
theorem d2_9 : decode prog_28_method_1_code 9 = .ok (.aload_n 0, 1) := by decide +kernel
theorem d2_10 : decode prog_28_method_1_code 10 = .ok (.iload_n 1, 1) := by decide +kernel
theorem d2_11 : decode prog_28_method_1_code 11 = .ok (.putfield 15, 3) := by decide +kernel
theorem d2_14 : decode prog_28_method_1_code 14 = .ok (.return_, 1) := by decide +kernel
theorem pn_com_example_rehydra_rehydra_KeySlots : plainName "com/example/rehydra/rehydra/KeySlots" = true := by first | (simp [plainName, overriddenIn]; done) | decide +kernel
theorem ef_2 (m : MethodId) (u0 : Addr) (u1 : Int32) (u2 : UInt32) : entryFrame m #[(.ref u0), (.int u1), (.float u2)] 3 = mkF m 0 #[.val (.ref u0), .val (.int u1), .val (.float u2)] [] := by first | (simp [entryFrame, mkF, argsToLocals, Value.category]; done) | rfl
def Q2 (Z : State) (u0 : Addr) (u1 : Int32) (u2 : UInt32) (h0 : Heap) (n0 : Nat) (v : Option Value) (h : Heap) (L : List Loc) : Prop := v = none ∧ Fr n0 L ∧ Keep h0 h [u0] ∧ Exa Z h u0 "com/example/rehydra/rehydra/KeySlots" ∧ Fld Z h u0 "com/example/rehydra/rehydra/KeySlots" "count" "I" (.int (0 : Int32)) ∧ Fld Z h u0 "com/example/rehydra/rehydra/KeySlots" "capacity" "I" (.int u1) ∧ Fld Z h u0 "com/example/rehydra/rehydra/KeySlots" "loadFactor" "F" (.float u2) ∧ Fld Z h u0 "com/example/rehydra/rehydra/KeySlots" "large" "[I" .null ∧ Fld Z h u0 "com/example/rehydra/rehydra/KeySlots" "heads" "[I" .null
set_option maxRecDepth 65536 in
set_option maxHeartbeats 40000000 in
theorem rm2 (l : Launch) (Z : State) (a0 : Array Value) (hw : ∀ d ∈ tables_1, d.before a0 Z = true) (ws : List Jvm.Cond) (u0 : Addr) (u1 : Int32) (u2 : UInt32) (h0 : Heap) (n0 : Nat) (Z0 : n0 ≤ h0.size) (g_u0 : n0 ≤ u0) (E_u0 : Exa Z h0 u0 "com/example/rehydra/rehydra/KeySlots") (F_count_u0 : Fld Z h0 u0 "com/example/rehydra/rehydra/KeySlots" "count" "I" (.int (0 : Int32))) (F_capacity_u0 : Fld Z h0 u0 "com/example/rehydra/rehydra/KeySlots" "capacity" "I" (.int (0 : Int32))) (F_loadFactor_u0 : Fld Z h0 u0 "com/example/rehydra/rehydra/KeySlots" "loadFactor" "F" (.float (0 : UInt32))) (F_large_u0 : Fld Z h0 u0 "com/example/rehydra/rehydra/KeySlots" "large" "[I" .null) (F_heads_u0 : Fld Z h0 u0 "com/example/rehydra/rehydra/KeySlots" "heads" "[I" .null) :
    MetFree l (⟨"com/example/rehydra/rehydra/KeySlots", "<init>", "(IF)V"⟩ : MethodName) (head1 (Jvm.Cond.code (⟨"com/example/rehydra/rehydra/KeySlots", "<init>", "(IF)V"⟩ : MethodName) prog_28_method_1_code 3 none :: ws) ({ frames := 1, cells := 0, slots := 0, locals := 12 } : Room)) (fun a U => a = #[(.ref u0), (.int u1), (.float u2)] ∧ Z.Warmed39 U.vm ∧ U.heap = h0) (fun _ _ _ _ _ => True) (fun _ U o U' => ∃ v L, o = .returned v ∧ Q2 Z u0 u1 u2 h0 n0 v U'.heap L ∧ FrameEnd U o U' L ({ frames := 1, cells := 0, slots := 0, locals := 12 } : Room).cells ({ frames := 1, cells := 0, slots := 0, locals := 12 } : Room).slots) := by
  refine MetFree.of_bodySF (plainFor_of_name pn_com_example_rehydra_rehydra_KeySlots) hisR ?_
  intro p e s m args below meth c s₁ Bd hml0 hP hK
  obtain ⟨rfl, hZ, hh⟩ := hP
  have hx := Bd.exec
  have hby := Bd.bytes
  have hml : c.maxLocals = 3 := hml0
  have hown : s.vm.findClass "com/example/rehydra/rehydra/KeySlots" = some m.cls := findClass_of_methodNamed Bd.named
  have hnm := (name_of_methodNamed Bd.named Bd.method).1
  have X0 : Stand p l e ({ frames := 1, cells := 0, slots := 0, locals := 12 } : Room) s m #[(.ref u0), (.int u1), (.float u2)] below meth c s₁ [] 0 0 := Stand.of_body Bd
  have e0 : s₁.heap = h0 := by rw [← hh, Bd.state]; rfl
  have N0 := Fr.nil n0
  have pre0 : ∀ t, Steps p.tables e below (s₁.setTop (mkF m 0 #[.val (.ref u0), .val (.int u1), .val (.float u2)] [])) t → Steps p.tables e below (s₁.setTop (entryFrame m #[(.ref u0), (.int u1), (.float u2)] 3)) t := fun t k => castTop (ef_2 m u0 u1 u2) k
  obtain ⟨T1, X1, e1, st1⟩ := initO X0 hx hZ hown (hw _ (List.mem_of_getElem? (i := 10) rfl)) (hw _ (List.mem_of_getElem? (i := 11) rfl)) (hw _ (List.mem_of_getElem? (i := 12) rfl)) e0 (g := (mkF m 1 #[.val (.ref u0), .val (.int u1), .val (.float u2)] [(.ref u0)])) rfl (by rw [hml]; rfl) rfl (hb hby d2_1) (by decide) (W := 0) (by show 2 * 0 + _ ≤ _; exact Nat.le_of_eq rfl) (by decide)
  obtain ⟨T2, h2, X2, e2, W2, st2⟩ := putF X1 hx hZ hown (host := "") (Or.inl (hw _ (List.mem_of_getElem? (i := 13) rfl))) Via.refl e1 F_loadFactor_u0 E_u0 (Or.inr ⟨(hw _ (List.mem_of_getElem? (i := 14) rfl)), rfl, hnm⟩) (hw _ (List.mem_of_getElem? (i := 5) rfl)) (ty := .float) (by decide) rfl rfl (g := (mkF m 6 #[.val (.ref u0), .val (.int u1), .val (.float u2)] [(.float u2), (.ref u0)])) rfl rfl (hb hby d2_6)
  have Fw2 := F_loadFactor_u0.same W2
  have N2 := Fr.snoc X2 N0 g_u0
  have Z2 : n0 ≤ h2.size := Nat.le_trans Z0 (Keep.of_wr W2).1
  have KK2 := (Keep.refl h0 [u0]).wr W2 (Or.inl (List.mem_of_getElem? (i := 0) rfl))
  obtain ⟨T3, h3, X3, e3, W3, st3⟩ := putF X2 hx hZ hown (host := "") (Or.inl (hw _ (List.mem_of_getElem? (i := 15) rfl))) Via.refl e2 (F_capacity_u0.other W2 (Or.inr (slot_ne (Or.inl (hw _ (List.mem_of_getElem? (i := 16) rfl))) (Or.inr (hw _ (List.mem_of_getElem? (i := 14) rfl))) (by decide) (t := .int) (t' := .float) (by decide) (by decide)))) (E_u0.wr W2) (Or.inl (hw _ (List.mem_of_getElem? (i := 16) rfl))) (hw _ (List.mem_of_getElem? (i := 5) rfl)) (ty := .int) (by decide) rfl rfl (g := (mkF m 11 #[.val (.ref u0), .val (.int u1), .val (.float u2)] [(.int u1), (.ref u0)])) rfl rfl (hb hby d2_11)
  have Fw3 := (F_capacity_u0.other W2 (Or.inr (slot_ne (Or.inl (hw _ (List.mem_of_getElem? (i := 16) rfl))) (Or.inr (hw _ (List.mem_of_getElem? (i := 14) rfl))) (by decide) (t := .int) (t' := .float) (by decide) (by decide)))).same W3
  have N3 := Fr.snoc X3 N2 g_u0
  have Z3 : n0 ≤ h3.size := Nat.le_trans Z2 (Keep.of_wr W3).1
  have KK3 := KK2.wr W3 (Or.inl (List.mem_of_getElem? (i := 0) rfl))
  obtain ⟨fs, hr, hrun, hended, hW, hsame⟩ := X3.leave (v := none) (fun _ => rfl)
  refine ⟨_, _, pre0 _ ?_, hrun, hended, _, _, rfl, ?_, ⟨_, rfl⟩, hW, hsame.mono (by decide) (by decide)⟩
  · show Steps p.tables e below (s₁.setTop (mkF m 0 #[.val (.ref u0), .val (.int u1), .val (.float u2)] [])) _
    refine XS.aloadN X0.here hx rfl (hb hby d2_0) rfl rfl ?_
    show Steps p.tables e below (s₁.setTop (mkF m 1 #[.val (.ref u0), .val (.int u1), .val (.float u2)] [(.ref u0)])) _
    refine st1 _ ?_
    show Steps p.tables e below (T1.setTop (mkF m 4 #[.val (.ref u0), .val (.int u1), .val (.float u2)] [])) _
    refine XS.aloadN X1.here hx rfl (hb hby d2_4) rfl rfl ?_
    show Steps p.tables e below (T1.setTop (mkF m 5 #[.val (.ref u0), .val (.int u1), .val (.float u2)] [(.ref u0)])) _
    refine XS.floadN X1.here hx rfl (hb hby d2_5) rfl ?_
    show Steps p.tables e below (T1.setTop (mkF m 6 #[.val (.ref u0), .val (.int u1), .val (.float u2)] [(.float u2), (.ref u0)])) _
    refine st2 _ ?_
    show Steps p.tables e below (T2.setTop (mkF m 9 #[.val (.ref u0), .val (.int u1), .val (.float u2)] [])) _
    refine XS.aloadN X2.here hx rfl (hb hby d2_9) rfl rfl ?_
    show Steps p.tables e below (T2.setTop (mkF m 10 #[.val (.ref u0), .val (.int u1), .val (.float u2)] [(.ref u0)])) _
    refine XS.iloadN X2.here hx rfl (hb hby d2_10) rfl ?_
    show Steps p.tables e below (T2.setTop (mkF m 11 #[.val (.ref u0), .val (.int u1), .val (.float u2)] [(.int u1), (.ref u0)])) _
    refine st3 _ ?_
    show Steps p.tables e below (T3.setTop (mkF m 14 #[.val (.ref u0), .val (.int u1), .val (.float u2)] [])) _
    exact X3.returnOut hx Bd.returns (hb hby d2_14) hr
  · show Q2 Z u0 u1 u2 h0 n0 _ T3.heap _
    rw [e3]
    exact ⟨rfl, N3, KK3, ((E_u0.wr W2).wr W3), ((F_count_u0.other W2 (Or.inr (slot_ne (Or.inl (hw _ (List.mem_of_getElem? (i := 18) rfl))) (Or.inr (hw _ (List.mem_of_getElem? (i := 14) rfl))) (by decide) (t := .int) (t' := .float) (by decide) (by decide)))).other W3 (Or.inr (slot_ne (Or.inl (hw _ (List.mem_of_getElem? (i := 18) rfl))) (Or.inl (hw _ (List.mem_of_getElem? (i := 16) rfl))) (by decide) (t := .int) (t' := .int) (by decide) (by decide)))), Fw3, (Fw2.other W3 (Or.inr (slot_ne (Or.inr (hw _ (List.mem_of_getElem? (i := 14) rfl))) (Or.inl (hw _ (List.mem_of_getElem? (i := 16) rfl))) (by decide) (t := .float) (t' := .int) (by decide) (by decide)))), ((F_large_u0.other W2 (Or.inr (slot_ne (Or.inl (hw _ (List.mem_of_getElem? (i := 35) rfl))) (Or.inr (hw _ (List.mem_of_getElem? (i := 14) rfl))) (by decide) (t := (.array .int)) (t' := .float) (by decide) (by decide)))).other W3 (Or.inr (slot_ne (Or.inl (hw _ (List.mem_of_getElem? (i := 35) rfl))) (Or.inl (hw _ (List.mem_of_getElem? (i := 16) rfl))) (by decide) (t := (.array .int)) (t' := .int) (by decide) (by decide)))), ((F_heads_u0.other W2 (Or.inr (slot_ne (Or.inl (hw _ (List.mem_of_getElem? (i := 42) rfl))) (Or.inr (hw _ (List.mem_of_getElem? (i := 14) rfl))) (by decide) (t := (.array .int)) (t' := .float) (by decide) (by decide)))).other W3 (Or.inr (slot_ne (Or.inl (hw _ (List.mem_of_getElem? (i := 42) rfl))) (Or.inl (hw _ (List.mem_of_getElem? (i := 16) rfl))) (by decide) (t := (.array .int)) (t' := .int) (by decide) (by decide))))⟩
theorem pd_5 : parseMethodDescriptor "(IF)V" = some ⟨[.int, .float], none⟩ := by decide +kernel
theorem d1_0 : decode prog_28_method_2_code 0 = .ok (.new 1, 3) := by decide +kernel
theorem d1_3 : decode prog_28_method_2_code 3 = .ok (.dup, 1) := by decide +kernel
theorem d1_4 : decode prog_28_method_2_code 4 = .ok (.bipush 11, 2) := by decide +kernel
theorem d1_6 : decode prog_28_method_2_code 6 = .ok (.ldc 19, 2) := by decide +kernel
theorem d1_8 : decode prog_28_method_2_code 8 = .ok (.invokespecial 20, 3) := by decide +kernel
theorem d1_11 : decode prog_28_method_2_code 11 = .ok (.astore_n 1, 1) := by decide +kernel
theorem d1_12 : decode prog_28_method_2_code 12 = .ok (.iload_n 0, 1) := by decide +kernel
theorem d1_13 : decode prog_28_method_2_code 13 = .ok (.bipush 8, 2) := by decide +kernel
theorem d1_15 : decode prog_28_method_2_code 15 = .ok (.if_icmp .gt 8, 3) := by decide +kernel
theorem d1_18 : decode prog_28_method_2_code 18 = .ok (.aload_n 1, 1) := by decide +kernel
theorem d1_19 : decode prog_28_method_2_code 19 = .ok (.iload_n 0, 1) := by decide +kernel
theorem d1_20 : decode prog_28_method_2_code 20 = .ok (.putfield 23, 3) := by decide +kernel
theorem d1_23 : decode prog_28_method_2_code 23 = .ok (.aload_n 1, 1) := by decide +kernel
theorem d1_24 : decode prog_28_method_2_code 24 = .ok (.areturn, 1) := by decide +kernel
theorem ef_1 (m : MethodId) (u0 : Int32) : entryFrame m #[(.int u0)] 2 = mkF m 0 #[.val (.int u0), .unset] [] := by first | (simp [entryFrame, mkF, argsToLocals, Value.category]; done) | rfl
def Q1 (Z : State) (u0 : Int32) (h0 : Heap) (n0 : Nat) (v : Option Value) (h : Heap) (L : List Loc) : Prop := v = some (.ref h0.size) ∧ Fr n0 L ∧ Keep h0 h [] ∧ Exa Z h h0.size "com/example/rehydra/rehydra/KeySlots" ∧ Fld Z h h0.size "com/example/rehydra/rehydra/KeySlots" "count" "I" (.int (cnt u0)) ∧ Fld Z h h0.size "com/example/rehydra/rehydra/KeySlots" "capacity" "I" (.int (11 : Int32)) ∧ Fld Z h h0.size "com/example/rehydra/rehydra/KeySlots" "loadFactor" "F" (.float (1061158912 : UInt32)) ∧ Fld Z h h0.size "com/example/rehydra/rehydra/KeySlots" "large" "[I" .null ∧ Fld Z h h0.size "com/example/rehydra/rehydra/KeySlots" "heads" "[I" .null
set_option maxRecDepth 65536 in
set_option maxHeartbeats 40000000 in
theorem rm1 (l : Launch) (Z : State) (a0 : Array Value) (hw : ∀ d ∈ tables_1, d.before a0 Z = true) (ws : List Jvm.Cond) (u0 : Int32) (h0 : Heap) (n0 : Nat) (Z0 : n0 ≤ h0.size) :
    MetFree l (⟨"com/example/rehydra/rehydra/KeySlots", "builtWithNoValues", "(I)Lcom/example/rehydra/rehydra/KeySlots;"⟩ : MethodName) (head1 (Jvm.Cond.code (⟨"com/example/rehydra/rehydra/KeySlots", "builtWithNoValues", "(I)Lcom/example/rehydra/rehydra/KeySlots;"⟩ : MethodName) prog_28_method_2_code 2 (some (.object "com/example/rehydra/rehydra/KeySlots")) :: ws) ({ frames := 2, cells := 1, slots := 8, locals := 27 } : Room)) (fun a U => a = #[(.int u0)] ∧ Z.Warmed39 U.vm ∧ U.heap = h0) (fun _ _ _ _ _ => True) (fun _ U o U' => ∃ v L, o = .returned v ∧ Q1 Z u0 h0 n0 v U'.heap L ∧ FrameEnd U o U' L ({ frames := 2, cells := 1, slots := 8, locals := 27 } : Room).cells ({ frames := 2, cells := 1, slots := 8, locals := 27 } : Room).slots) := by
  refine MetFree.of_bodySF (plainFor_of_name pn_com_example_rehydra_rehydra_KeySlots) hisR ?_
  intro p e s m args below meth c s₁ Bd hml0 hP hK
  obtain ⟨rfl, hZ, hh⟩ := hP
  have hx := Bd.exec
  have hby := Bd.bytes
  have hml : c.maxLocals = 2 := hml0
  have hown : s.vm.findClass "com/example/rehydra/rehydra/KeySlots" = some m.cls := findClass_of_methodNamed Bd.named
  have hnm := (name_of_methodNamed Bd.named Bd.method).1
  have X0 : Stand p l e ({ frames := 2, cells := 1, slots := 8, locals := 27 } : Room) s m #[(.int u0)] below meth c s₁ [] 0 0 := Stand.of_body Bd
  have e0 : s₁.heap = h0 := by rw [← hh, Bd.state]; rfl
  have N0 := Fr.nil n0
  have pre0 : ∀ t, Steps p.tables e below (s₁.setTop (mkF m 0 #[.val (.int u0), .unset] [])) t → Steps p.tables e below (s₁.setTop (entryFrame m #[(.int u0)] 2)) t := fun t k => castTop (ef_1 m u0) k
  obtain ⟨T1, h1, X1, e1, E1, A1, D1, -, st1⟩ := newO X0 hx hZ hown (hw _ (List.mem_of_getElem? (i := 4) rfl)) (hw _ (List.mem_of_getElem? (i := 5) rfl)) (hw _ (List.mem_of_getElem? (i := 2) rfl)) e0 (g := (mkF m 0 #[.val (.int u0), .unset] [])) rfl (hb hby d1_0) (by decide) (by decide)
  obtain ⟨b1, g1⟩ : ∃ z, z = h0.size := ⟨_, rfl⟩
  rw [← g1] at A1 D1 st1
  have g_b1 : n0 ≤ b1 := Nat.le_trans Z0 (Nat.le_of_eq g1.symm)
  have sz_b1 : h0.size ≤ b1 := Nat.le_trans (Keep.refl h0 []).1 (Nat.le_of_eq g1.symm)
  have Z1 : n0 ≤ h1.size := Nat.le_trans Z0 E1.1
  have KK1 := (Keep.refl h0 []).ext E1
  have F1_loadFactor : Fld Z h1 b1 "com/example/rehydra/rehydra/KeySlots" "loadFactor" "F" (.float (0 : UInt32)) := D1 (Or.inr (hw _ (List.mem_of_getElem? (i := 14) rfl))) (ty := .float) (by decide)
  have F1_capacity : Fld Z h1 b1 "com/example/rehydra/rehydra/KeySlots" "capacity" "I" (.int (0 : Int32)) := D1 (Or.inl (hw _ (List.mem_of_getElem? (i := 16) rfl))) (ty := .int) (by decide)
  have F1_count : Fld Z h1 b1 "com/example/rehydra/rehydra/KeySlots" "count" "I" (.int (0 : Int32)) := D1 (Or.inl (hw _ (List.mem_of_getElem? (i := 18) rfl))) (ty := .int) (by decide)
  have F1_large : Fld Z h1 b1 "com/example/rehydra/rehydra/KeySlots" "large" "[I" .null := D1 (Or.inl (hw _ (List.mem_of_getElem? (i := 35) rfl))) (ty := (.array .int)) (by decide)
  have F1_heads : Fld Z h1 b1 "com/example/rehydra/rehydra/KeySlots" "heads" "[I" .null := D1 (Or.inl (hw _ (List.mem_of_getElem? (i := 42) rfl))) (ty := (.array .int)) (by decide)
  have F1_hashes : Fld Z h1 b1 "com/example/rehydra/rehydra/KeySlots" "hashes" "[I" .null := D1 (Or.inl (hw _ (List.mem_of_getElem? (i := 83) rfl))) (ty := (.array .int)) (by decide)
  have F1_reaches : Fld Z h1 b1 "com/example/rehydra/rehydra/KeySlots" "reaches" "[I" .null := D1 (Or.inl (hw _ (List.mem_of_getElem? (i := 85) rfl))) (ty := (.array .int)) (by decide)
  have F1_next : Fld Z h1 b1 "com/example/rehydra/rehydra/KeySlots" "next" "[I" .null := D1 (Or.inl (hw _ (List.mem_of_getElem? (i := 87) rfl))) (ty := (.array .int)) (by decide)
  have st2 := X1.ldcFloatC hx hown (mvT hZ (hw _ (List.mem_of_getElem? (i := 6) rfl))) (g := (mkF m 6 #[.val (.int u0), .unset] [(.int (11 : Int32)), (.ref b1), (.ref b1)])) rfl (hb hby d1_6)
  obtain ⟨_, _, ⟨T3, L3, k3, n3⟩, -, X3, ⟨Lc3, hQ3, l3, y3, z3⟩, st3⟩ := X1.specialBack hx (y := (⟨"com/example/rehydra/rehydra/KeySlots", "<init>", "(IF)V"⟩ : MethodName)) rfl hown (mvT hZ (hw _ (List.mem_of_getElem? (i := 7) rfl))) (mvT hZ (hw _ (List.mem_of_getElem? (i := 8) rfl))) (mvT hZ (hw _ (List.mem_of_getElem? (i := 9) rfl))) (by decide) (backOf (W := 1) (rm2 l Z a0 hw [] b1 (11 : Int32) (1061158912 : UInt32) h1 n0 Z1 g_b1 A1 F1_count F1_capacity F1_loadFactor F1_large F1_heads) hZ (hw _ (List.mem_of_getElem? (i := 9) rfl)) (hw _ (List.mem_of_getElem? (i := 2) rfl)) (by decide) (by decide)) (g := (mkF m 8 #[.val (.int u0), .unset] [(.float (1061158912 : UInt32)), (.int (11 : Int32)), (.ref b1), (.ref b1)])) rfl (by rw [hml]; rfl) (Steps.refl _) (a := b1) (argsL := [(.int (11 : Int32)), (.float (1061158912 : UInt32))]) (rest := [(.ref b1)]) (lenOf pd_5 rfl) rfl (by show 2 * 0 + _ ≤ _; exact Nat.le_of_eq rfl) (hb hby d1_8) (fun _ _ => ⟨rfl, e1, (by decide : 1 + 0 ≤ _), (by decide : 8 + 0 ≤ _)⟩)
  dsimp only [Pt.U, Pt.locs, Pt.cells, Pt.slots] at X3 l3 y3 z3 st3 hQ3
  subst l3 y3 z3
  obtain ⟨rfl, N3q, K3, A3, F3_count, F3_capacity, F3_loadFactor, F3_large, F3_heads⟩ := hQ3
  have N3 := Fr.app N0 N3q
  have Z3 : n0 ≤ T3.heap.size := Nat.le_trans Z1 K3.1
  have KK3 := KK1.trans K3 (allS (P := fun x => x ∈ [] ∨ h0.size ≤ x) (Or.inr sz_b1) all0)
  by_cases hc15 : (8 : Int32) < u0
  · have hk : cnt u0 = (0 : Int32) := by unfold cnt; simp [hc15]
    obtain ⟨fs, hr, hrun, hended, hW, hsame⟩ := X3.leave (v := some (.ref b1)) (fun h => by rw [Bd.returns] at h; cases h)
    refine ⟨_, _, pre0 _ ?_, hrun, hended, _, _, rfl, ?_, ⟨_, rfl⟩, hW, hsame.mono (by decide) (by decide)⟩
    · show Steps p.tables e below (s₁.setTop (mkF m 0 #[.val (.int u0), .unset] [])) _
      refine st1 _ ?_
      show Steps p.tables e below (T1.setTop (mkF m 3 #[.val (.int u0), .unset] [(.ref b1)])) _
      refine XS.dup X1.here hx rfl (hb hby d1_3) rfl rfl ?_
      show Steps p.tables e below (T1.setTop (mkF m 4 #[.val (.int u0), .unset] [(.ref b1), (.ref b1)])) _
      refine XS.bipush X1.here hx rfl (hb hby d1_4) ?_
      show Steps p.tables e below (T1.setTop (mkF m 6 #[.val (.int u0), .unset] [(.int (11 : Int32)), (.ref b1), (.ref b1)])) _
      refine st2 _ ?_
      show Steps p.tables e below (T1.setTop (mkF m 8 #[.val (.int u0), .unset] [(.float (1061158912 : UInt32)), (.int (11 : Int32)), (.ref b1), (.ref b1)])) _
      refine st3.trans ?_
      show Steps p.tables e below (T3.setTop (mkF m 11 #[.val (.int u0), .unset] [(.ref b1)])) _
      refine XS.astoreN X3.here hx rfl (hb hby d1_11) rfl rfl (l' := #[.val (.int u0), .val (.ref b1)]) rfl ?_
      show Steps p.tables e below (T3.setTop (mkF m 12 #[.val (.int u0), .val (.ref b1)] [])) _
      refine XS.iloadN X3.here hx rfl (hb hby d1_12) rfl ?_
      show Steps p.tables e below (T3.setTop (mkF m 13 #[.val (.int u0), .val (.ref b1)] [(.int u0)])) _
      refine XS.bipush X3.here hx rfl (hb hby d1_13) ?_
      show Steps p.tables e below (T3.setTop (mkF m 15 #[.val (.int u0), .val (.ref b1)] [(.int (8 : Int32)), (.int u0)])) _
      refine XS.icmpYes X3.here hx rfl (pc0 := 15) (pc' := 23) rfl (hb hby d1_15) rfl (tlt hc15).2.2.1 (by decide) (by decide) ?_
      show Steps p.tables e below (T3.setTop (mkF m 23 #[.val (.int u0), .val (.ref b1)] [])) _
      refine XS.aloadN X3.here hx rfl (hb hby d1_23) rfl rfl ?_
      show Steps p.tables e below (T3.setTop (mkF m 24 #[.val (.int u0), .val (.ref b1)] [(.ref b1)])) _
      jvm_step X3.here [X3.here.top, hx, (hb hby d1_24), X3.method', Bd.returns, Value.isRef, FieldType.isReference]
      first | (intro acts; rw [hr _ acts rfl rfl rfl]) | rw [hr _ _ rfl rfl rfl]
      exact Steps.refl _
    · show Q1 Z u0 h0 n0 _ T3.heap _
      exact ⟨(by rw [g1]), N3, KK3, (by rw [← g1]; exact A3), (by rw [hk, ← g1]; exact F3_count), (by rw [← g1]; exact F3_capacity), (by rw [← g1]; exact F3_loadFactor), (by rw [← g1]; exact F3_large), (by rw [← g1]; exact F3_heads)⟩
  · obtain ⟨T4, h4, X4, e4, W4, st4⟩ := putF X3 hx hZ hown (host := "") (Or.inl (hw _ (List.mem_of_getElem? (i := 17) rfl))) Via.refl rfl F3_count A3 (Or.inl (hw _ (List.mem_of_getElem? (i := 18) rfl))) (hw _ (List.mem_of_getElem? (i := 5) rfl)) (ty := .int) (by decide) rfl rfl (g := (mkF m 20 #[.val (.int u0), .val (.ref b1)] [(.int u0), (.ref b1)])) rfl rfl (hb hby d1_20)
    have Fw4 := F3_count.same W4
    have N4 := Fr.snoc X4 N3 g_b1
    have Z4 : n0 ≤ h4.size := Nat.le_trans Z3 (Keep.of_wr W4).1
    have KK4 := KK3.wr W4 (Or.inr sz_b1)
    have hk : cnt u0 = u0 := by unfold cnt; simp [hc15]
    obtain ⟨fs, hr, hrun, hended, hW, hsame⟩ := X4.leave (v := some (.ref b1)) (fun h => by rw [Bd.returns] at h; cases h)
    refine ⟨_, _, pre0 _ ?_, hrun, hended, _, _, rfl, ?_, ⟨_, rfl⟩, hW, hsame.mono (by decide) (by decide)⟩
    · show Steps p.tables e below (s₁.setTop (mkF m 0 #[.val (.int u0), .unset] [])) _
      refine st1 _ ?_
      show Steps p.tables e below (T1.setTop (mkF m 3 #[.val (.int u0), .unset] [(.ref b1)])) _
      refine XS.dup X1.here hx rfl (hb hby d1_3) rfl rfl ?_
      show Steps p.tables e below (T1.setTop (mkF m 4 #[.val (.int u0), .unset] [(.ref b1), (.ref b1)])) _
      refine XS.bipush X1.here hx rfl (hb hby d1_4) ?_
      show Steps p.tables e below (T1.setTop (mkF m 6 #[.val (.int u0), .unset] [(.int (11 : Int32)), (.ref b1), (.ref b1)])) _
      refine st2 _ ?_
      show Steps p.tables e below (T1.setTop (mkF m 8 #[.val (.int u0), .unset] [(.float (1061158912 : UInt32)), (.int (11 : Int32)), (.ref b1), (.ref b1)])) _
      refine st3.trans ?_
      show Steps p.tables e below (T3.setTop (mkF m 11 #[.val (.int u0), .unset] [(.ref b1)])) _
      refine XS.astoreN X3.here hx rfl (hb hby d1_11) rfl rfl (l' := #[.val (.int u0), .val (.ref b1)]) rfl ?_
      show Steps p.tables e below (T3.setTop (mkF m 12 #[.val (.int u0), .val (.ref b1)] [])) _
      refine XS.iloadN X3.here hx rfl (hb hby d1_12) rfl ?_
      show Steps p.tables e below (T3.setTop (mkF m 13 #[.val (.int u0), .val (.ref b1)] [(.int u0)])) _
      refine XS.bipush X3.here hx rfl (hb hby d1_13) ?_
      show Steps p.tables e below (T3.setTop (mkF m 15 #[.val (.int u0), .val (.ref b1)] [(.int (8 : Int32)), (.int u0)])) _
      refine XS.icmpNo X3.here hx rfl (hb hby d1_15) rfl (flt hc15).2.2.1 ?_
      show Steps p.tables e below (T3.setTop (mkF m 18 #[.val (.int u0), .val (.ref b1)] [])) _
      refine XS.aloadN X3.here hx rfl (hb hby d1_18) rfl rfl ?_
      show Steps p.tables e below (T3.setTop (mkF m 19 #[.val (.int u0), .val (.ref b1)] [(.ref b1)])) _
      refine XS.iloadN X3.here hx rfl (hb hby d1_19) rfl ?_
      show Steps p.tables e below (T3.setTop (mkF m 20 #[.val (.int u0), .val (.ref b1)] [(.int u0), (.ref b1)])) _
      refine st4 _ ?_
      show Steps p.tables e below (T4.setTop (mkF m 23 #[.val (.int u0), .val (.ref b1)] [])) _
      refine XS.aloadN X4.here hx rfl (hb hby d1_23) rfl rfl ?_
      show Steps p.tables e below (T4.setTop (mkF m 24 #[.val (.int u0), .val (.ref b1)] [(.ref b1)])) _
      jvm_step X4.here [X4.here.top, hx, (hb hby d1_24), X4.method', Bd.returns, Value.isRef, FieldType.isReference]
      first | (intro acts; rw [hr _ acts rfl rfl rfl]) | rw [hr _ _ rfl rfl rfl]
      exact Steps.refl _
    · show Q1 Z u0 h0 n0 _ T4.heap _
      rw [e4]
      exact ⟨(by rw [g1]), N4, KK4, (by rw [← g1]; exact (A3.wr W4)), (by rw [hk, ← g1]; exact Fw4), (by rw [← g1]; exact (F3_capacity.other W4 (Or.inr (slot_ne (Or.inl (hw _ (List.mem_of_getElem? (i := 16) rfl))) (Or.inl (hw _ (List.mem_of_getElem? (i := 18) rfl))) (by decide) (t := .int) (t' := .int) (by decide) (by decide))))), (by rw [← g1]; exact (F3_loadFactor.other W4 (Or.inr (slot_ne (Or.inr (hw _ (List.mem_of_getElem? (i := 14) rfl))) (Or.inl (hw _ (List.mem_of_getElem? (i := 18) rfl))) (by decide) (t := .float) (t' := .int) (by decide) (by decide))))), (by rw [← g1]; exact (F3_large.other W4 (Or.inr (slot_ne (Or.inl (hw _ (List.mem_of_getElem? (i := 35) rfl))) (Or.inl (hw _ (List.mem_of_getElem? (i := 18) rfl))) (by decide) (t := (.array .int)) (t' := .int) (by decide) (by decide))))), (by rw [← g1]; exact (F3_heads.other W4 (Or.inr (slot_ne (Or.inl (hw _ (List.mem_of_getElem? (i := 42) rfl))) (Or.inl (hw _ (List.mem_of_getElem? (i := 18) rfl))) (by decide) (t := (.array .int)) (t' := .int) (by decide) (by decide)))))⟩
theorem d4_0 : decode prog_28_method_6_code 0 = .ok (.aload_n 0, 1) := by decide +kernel
theorem d4_1 : decode prog_28_method_6_code 1 = .ok (.getfield 23, 3) := by decide +kernel
theorem d4_4 : decode prog_28_method_6_code 4 = .ok (.ireturn, 1) := by decide +kernel
theorem ef_4 (m : MethodId) (u0 : Addr) : entryFrame m #[(.ref u0)] 1 = mkF m 0 #[.val (.ref u0)] [] := by first | (simp [entryFrame, mkF, argsToLocals, Value.category]; done) | rfl
def Q4 (Z : State) (u0 : Addr) (w1 : Int32) (h0 : Heap) (n0 : Nat) (v : Option Value) (h : Heap) (L : List Loc) : Prop := v = some (.int w1) ∧ Fr n0 L ∧ h = h0
set_option maxRecDepth 65536 in
set_option maxHeartbeats 40000000 in
theorem rm4 (l : Launch) (Z : State) (a0 : Array Value) (hw : ∀ d ∈ tables_1, d.before a0 Z = true) (ws : List Jvm.Cond) (u0 : Addr) (w1 : Int32) (h0 : Heap) (n0 : Nat) (Z0 : n0 ≤ h0.size) (F_u0 : Fld Z h0 u0 "com/example/rehydra/rehydra/KeySlots" "count" "I" (.int w1)) :
    MetFree l (⟨"com/example/rehydra/rehydra/KeySlots", "count", "()I"⟩ : MethodName) (head1 (Jvm.Cond.code (⟨"com/example/rehydra/rehydra/KeySlots", "count", "()I"⟩ : MethodName) prog_28_method_6_code 1 (some .int) :: ws) ({ frames := 0, cells := 0, slots := 0, locals := 0 } : Room)) (fun a U => a = #[(.ref u0)] ∧ Z.Warmed39 U.vm ∧ U.heap = h0) (fun _ _ _ _ _ => True) (fun _ U o U' => ∃ v L, o = .returned v ∧ Q4 Z u0 w1 h0 n0 v U'.heap L ∧ FrameEnd U o U' L ({ frames := 0, cells := 0, slots := 0, locals := 0 } : Room).cells ({ frames := 0, cells := 0, slots := 0, locals := 0 } : Room).slots) := by
  refine MetFree.of_bodySF (plainFor_of_name pn_com_example_rehydra_rehydra_KeySlots) hisR ?_
  intro p e s m args below meth c s₁ Bd hml0 hP hK
  obtain ⟨rfl, hZ, hh⟩ := hP
  have hx := Bd.exec
  have hby := Bd.bytes
  have hml : c.maxLocals = 1 := hml0
  have hown : s.vm.findClass "com/example/rehydra/rehydra/KeySlots" = some m.cls := findClass_of_methodNamed Bd.named
  have hnm := (name_of_methodNamed Bd.named Bd.method).1
  have X0 : Stand p l e ({ frames := 0, cells := 0, slots := 0, locals := 0 } : Room) s m #[(.ref u0)] below meth c s₁ [] 0 0 := Stand.of_body Bd
  have e0 : s₁.heap = h0 := by rw [← hh, Bd.state]; rfl
  have N0 := Fr.nil n0
  have pre0 : ∀ t, Steps p.tables e below (s₁.setTop (mkF m 0 #[.val (.ref u0)] [])) t → Steps p.tables e below (s₁.setTop (entryFrame m #[(.ref u0)] 1)) t := fun t k => castTop (ef_4 m u0) k
  obtain ⟨T1, X1, e1, st1⟩ := getF X0 hx hZ hown (host := "") (Or.inl (hw _ (List.mem_of_getElem? (i := 17) rfl))) Via.refl e0 F_u0 (g := (mkF m 1 #[.val (.ref u0)] [(.ref u0)])) rfl rfl (hb hby d4_1)
  obtain ⟨fs, hr, hrun, hended, hW, hsame⟩ := X1.leave (v := some (.int w1)) (fun h => by rw [Bd.returns] at h; cases h)
  refine ⟨_, _, pre0 _ ?_, hrun, hended, _, _, rfl, ?_, ⟨_, rfl⟩, hW, hsame.mono (by decide) (by decide)⟩
  · show Steps p.tables e below (s₁.setTop (mkF m 0 #[.val (.ref u0)] [])) _
    refine XS.aloadN X0.here hx rfl (hb hby d4_0) rfl rfl ?_
    show Steps p.tables e below (s₁.setTop (mkF m 1 #[.val (.ref u0)] [(.ref u0)])) _
    refine st1 _ ?_
    show Steps p.tables e below (T1.setTop (mkF m 4 #[.val (.ref u0)] [(.int w1)])) _
    exact retI X1 hx Bd.returns (hb hby d4_4) hr
  · show Q4 Z u0 w1 h0 n0 _ T1.heap _
    rw [e1]
    exact ⟨rfl, N0, rfl⟩
theorem d5_0 : decode prog_28_method_7_code 0 = .ok (.aload_n 0, 1) := by decide +kernel
theorem d5_1 : decode prog_28_method_7_code 1 = .ok (.getfield 15, 3) := by decide +kernel
theorem d5_4 : decode prog_28_method_7_code 4 = .ok (.ireturn, 1) := by decide +kernel
theorem ef_5 (m : MethodId) (u0 : Addr) : entryFrame m #[(.ref u0)] 1 = mkF m 0 #[.val (.ref u0)] [] := by first | (simp [entryFrame, mkF, argsToLocals, Value.category]; done) | rfl
def Q5 (Z : State) (u0 : Addr) (w1 : Int32) (h0 : Heap) (n0 : Nat) (v : Option Value) (h : Heap) (L : List Loc) : Prop := v = some (.int w1) ∧ Fr n0 L ∧ h = h0
set_option maxRecDepth 65536 in
set_option maxHeartbeats 40000000 in
theorem rm5 (l : Launch) (Z : State) (a0 : Array Value) (hw : ∀ d ∈ tables_1, d.before a0 Z = true) (ws : List Jvm.Cond) (u0 : Addr) (w1 : Int32) (h0 : Heap) (n0 : Nat) (Z0 : n0 ≤ h0.size) (F_u0 : Fld Z h0 u0 "com/example/rehydra/rehydra/KeySlots" "capacity" "I" (.int w1)) :
    MetFree l (⟨"com/example/rehydra/rehydra/KeySlots", "capacity", "()I"⟩ : MethodName) (head1 (Jvm.Cond.code (⟨"com/example/rehydra/rehydra/KeySlots", "capacity", "()I"⟩ : MethodName) prog_28_method_7_code 1 (some .int) :: ws) ({ frames := 0, cells := 0, slots := 0, locals := 0 } : Room)) (fun a U => a = #[(.ref u0)] ∧ Z.Warmed39 U.vm ∧ U.heap = h0) (fun _ _ _ _ _ => True) (fun _ U o U' => ∃ v L, o = .returned v ∧ Q5 Z u0 w1 h0 n0 v U'.heap L ∧ FrameEnd U o U' L ({ frames := 0, cells := 0, slots := 0, locals := 0 } : Room).cells ({ frames := 0, cells := 0, slots := 0, locals := 0 } : Room).slots) := by
  refine MetFree.of_bodySF (plainFor_of_name pn_com_example_rehydra_rehydra_KeySlots) hisR ?_
  intro p e s m args below meth c s₁ Bd hml0 hP hK
  obtain ⟨rfl, hZ, hh⟩ := hP
  have hx := Bd.exec
  have hby := Bd.bytes
  have hml : c.maxLocals = 1 := hml0
  have hown : s.vm.findClass "com/example/rehydra/rehydra/KeySlots" = some m.cls := findClass_of_methodNamed Bd.named
  have hnm := (name_of_methodNamed Bd.named Bd.method).1
  have X0 : Stand p l e ({ frames := 0, cells := 0, slots := 0, locals := 0 } : Room) s m #[(.ref u0)] below meth c s₁ [] 0 0 := Stand.of_body Bd
  have e0 : s₁.heap = h0 := by rw [← hh, Bd.state]; rfl
  have N0 := Fr.nil n0
  have pre0 : ∀ t, Steps p.tables e below (s₁.setTop (mkF m 0 #[.val (.ref u0)] [])) t → Steps p.tables e below (s₁.setTop (entryFrame m #[(.ref u0)] 1)) t := fun t k => castTop (ef_5 m u0) k
  obtain ⟨T1, X1, e1, st1⟩ := getF X0 hx hZ hown (host := "") (Or.inl (hw _ (List.mem_of_getElem? (i := 15) rfl))) Via.refl e0 F_u0 (g := (mkF m 1 #[.val (.ref u0)] [(.ref u0)])) rfl rfl (hb hby d5_1)
  obtain ⟨fs, hr, hrun, hended, hW, hsame⟩ := X1.leave (v := some (.int w1)) (fun h => by rw [Bd.returns] at h; cases h)
  refine ⟨_, _, pre0 _ ?_, hrun, hended, _, _, rfl, ?_, ⟨_, rfl⟩, hW, hsame.mono (by decide) (by decide)⟩
  · show Steps p.tables e below (s₁.setTop (mkF m 0 #[.val (.ref u0)] [])) _
    refine XS.aloadN X0.here hx rfl (hb hby d5_0) rfl rfl ?_
    show Steps p.tables e below (s₁.setTop (mkF m 1 #[.val (.ref u0)] [(.ref u0)])) _
    refine st1 _ ?_
    show Steps p.tables e below (T1.setTop (mkF m 4 #[.val (.ref u0)] [(.int w1)])) _
    exact retI X1 hx Bd.returns (hb hby d5_4) hr
  · show Q5 Z u0 w1 h0 n0 _ T1.heap _
    rw [e1]
    exact ⟨rfl, N0, rfl⟩
theorem d6_0 : decode prog_28_method_4_code 0 = .ok (.aload_n 0, 1) := by decide +kernel
theorem d6_1 : decode prog_28_method_4_code 1 = .ok (.getfield 15, 3) := by decide +kernel
theorem d6_4 : decode prog_28_method_4_code 4 = .ok (.bipush 11, 2) := by decide +kernel
theorem d6_6 : decode prog_28_method_4_code 6 = .ok (.if_icmp .ne 20, 3) := by decide +kernel
theorem d6_9 : decode prog_28_method_4_code 9 = .ok (.aload_n 0, 1) := by decide +kernel
theorem d6_10 : decode prog_28_method_4_code 10 = .ok (.getfield 11, 3) := by decide +kernel
theorem d6_13 : decode prog_28_method_4_code 13 = .ok (.ldc 19, 2) := by decide +kernel
theorem d6_15 : decode prog_28_method_4_code 15 = .ok (.fcmp .l, 1) := by decide +kernel
theorem d6_16 : decode prog_28_method_4_code 16 = .ok (.ifCond .ne 10, 3) := by decide +kernel
theorem d6_19 : decode prog_28_method_4_code 19 = .ok (.aload_n 0, 1) := by decide +kernel
theorem d6_20 : decode prog_28_method_4_code 20 = .ok (.getfield 64, 3) := by decide +kernel
theorem d6_23 : decode prog_28_method_4_code 23 = .ok (.ifnull 7, 3) := by decide +kernel
theorem d6_30 : decode prog_28_method_4_code 30 = .ok (.iconst 0, 1) := by decide +kernel
theorem d6_31 : decode prog_28_method_4_code 31 = .ok (.ireturn, 1) := by decide +kernel
theorem ef_6 (m : MethodId) (u0 : Addr) : entryFrame m #[(.ref u0)] 1 = mkF m 0 #[.val (.ref u0)] [] := by first | (simp [entryFrame, mkF, argsToLocals, Value.category]; done) | rfl
def Q6 (Z : State) (u0 : Addr) (h0 : Heap) (n0 : Nat) (v : Option Value) (h : Heap) (L : List Loc) : Prop := v = some (.int (0 : Int32)) ∧ Fr n0 L ∧ h = h0
set_option maxRecDepth 65536 in
set_option maxHeartbeats 40000000 in
theorem rm6 (l : Launch) (Z : State) (a0 : Array Value) (hw : ∀ d ∈ tables_1, d.before a0 Z = true) (ws : List Jvm.Cond) (u0 : Addr) (h0 : Heap) (n0 : Nat) (Z0 : n0 ≤ h0.size) (F_capacity_u0 : Fld Z h0 u0 "com/example/rehydra/rehydra/KeySlots" "capacity" "I" (.int (11 : Int32))) (F_loadFactor_u0 : Fld Z h0 u0 "com/example/rehydra/rehydra/KeySlots" "loadFactor" "F" (.float (1061158912 : UInt32))) (F_large_u0 : Fld Z h0 u0 "com/example/rehydra/rehydra/KeySlots" "large" "[I" .null) :
    MetFree l (⟨"com/example/rehydra/rehydra/KeySlots", "worthKeeping", "()Z"⟩ : MethodName) (head1 (Jvm.Cond.code (⟨"com/example/rehydra/rehydra/KeySlots", "worthKeeping", "()Z"⟩ : MethodName) prog_28_method_4_code 1 (some .boolean) :: ws) ({ frames := 0, cells := 0, slots := 0, locals := 0 } : Room)) (fun a U => a = #[(.ref u0)] ∧ Z.Warmed39 U.vm ∧ U.heap = h0) (fun _ _ _ _ _ => True) (fun _ U o U' => ∃ v L, o = .returned v ∧ Q6 Z u0 h0 n0 v U'.heap L ∧ FrameEnd U o U' L ({ frames := 0, cells := 0, slots := 0, locals := 0 } : Room).cells ({ frames := 0, cells := 0, slots := 0, locals := 0 } : Room).slots) := by
  refine MetFree.of_bodySF (plainFor_of_name pn_com_example_rehydra_rehydra_KeySlots) hisR ?_
  intro p e s m args below meth c s₁ Bd hml0 hP hK
  obtain ⟨rfl, hZ, hh⟩ := hP
  have hx := Bd.exec
  have hby := Bd.bytes
  have hml : c.maxLocals = 1 := hml0
  have hown : s.vm.findClass "com/example/rehydra/rehydra/KeySlots" = some m.cls := findClass_of_methodNamed Bd.named
  have hnm := (name_of_methodNamed Bd.named Bd.method).1
  have X0 : Stand p l e ({ frames := 0, cells := 0, slots := 0, locals := 0 } : Room) s m #[(.ref u0)] below meth c s₁ [] 0 0 := Stand.of_body Bd
  have e0 : s₁.heap = h0 := by rw [← hh, Bd.state]; rfl
  have N0 := Fr.nil n0
  have pre0 : ∀ t, Steps p.tables e below (s₁.setTop (mkF m 0 #[.val (.ref u0)] [])) t → Steps p.tables e below (s₁.setTop (entryFrame m #[(.ref u0)] 1)) t := fun t k => castTop (ef_6 m u0) k
  obtain ⟨T1, X1, e1, st1⟩ := getF X0 hx hZ hown (host := "") (Or.inl (hw _ (List.mem_of_getElem? (i := 15) rfl))) Via.refl e0 F_capacity_u0 (g := (mkF m 1 #[.val (.ref u0)] [(.ref u0)])) rfl rfl (hb hby d6_1)
  obtain ⟨T2, X2, e2, st2⟩ := getF X1 hx hZ hown (host := "") (Or.inl (hw _ (List.mem_of_getElem? (i := 13) rfl))) Via.refl e1 F_loadFactor_u0 (g := (mkF m 10 #[.val (.ref u0)] [(.ref u0)])) rfl rfl (hb hby d6_10)
  have st3 := X2.ldcFloatC hx hown (mvT hZ (hw _ (List.mem_of_getElem? (i := 6) rfl))) (g := (mkF m 13 #[.val (.ref u0)] [(.float (1061158912 : UInt32))])) rfl (hb hby d6_13)
  obtain ⟨T4, X4, e4, st4⟩ := getF X2 hx hZ hown (host := "") (Or.inl (hw _ (List.mem_of_getElem? (i := 34) rfl))) Via.refl e2 F_large_u0 (g := (mkF m 20 #[.val (.ref u0)] [(.ref u0)])) rfl rfl (hb hby d6_20)
  obtain ⟨fs, hr, hrun, hended, hW, hsame⟩ := X4.leave (v := some (.int (0 : Int32))) (fun h => by rw [Bd.returns] at h; cases h)
  refine ⟨_, _, pre0 _ ?_, hrun, hended, _, _, rfl, ?_, ⟨_, rfl⟩, hW, hsame.mono (by decide) (by decide)⟩
  · show Steps p.tables e below (s₁.setTop (mkF m 0 #[.val (.ref u0)] [])) _
    refine XS.aloadN X0.here hx rfl (hb hby d6_0) rfl rfl ?_
    show Steps p.tables e below (s₁.setTop (mkF m 1 #[.val (.ref u0)] [(.ref u0)])) _
    refine st1 _ ?_
    show Steps p.tables e below (T1.setTop (mkF m 4 #[.val (.ref u0)] [(.int (11 : Int32))])) _
    refine XS.bipush X1.here hx rfl (hb hby d6_4) ?_
    show Steps p.tables e below (T1.setTop (mkF m 6 #[.val (.ref u0)] [(.int (11 : Int32)), (.int (11 : Int32))])) _
    refine XS.icmpNo X1.here hx rfl (hb hby d6_6) rfl (teq (by decide)).2 ?_
    show Steps p.tables e below (T1.setTop (mkF m 9 #[.val (.ref u0)] [])) _
    refine XS.aloadN X1.here hx rfl (hb hby d6_9) rfl rfl ?_
    show Steps p.tables e below (T1.setTop (mkF m 10 #[.val (.ref u0)] [(.ref u0)])) _
    refine st2 _ ?_
    show Steps p.tables e below (T2.setTop (mkF m 13 #[.val (.ref u0)] [(.float (1061158912 : UInt32))])) _
    refine st3 _ ?_
    show Steps p.tables e below (T2.setTop (mkF m 15 #[.val (.ref u0)] [(.float (1061158912 : UInt32)), (.float (1061158912 : UInt32))])) _
    refine XS.fcmpS X2.here hx rfl (hb hby d6_15) rfl (v := (0 : Int32)) (by decide +kernel) ?_
    show Steps p.tables e below (T2.setTop (mkF m 16 #[.val (.ref u0)] [(.int (0 : Int32))])) _
    refine XS.ifNo X2.here hx rfl (hb hby d6_16) rfl ((if0 _ _).trans (teq (by decide)).2) ?_
    show Steps p.tables e below (T2.setTop (mkF m 19 #[.val (.ref u0)] [])) _
    refine XS.aloadN X2.here hx rfl (hb hby d6_19) rfl rfl ?_
    show Steps p.tables e below (T2.setTop (mkF m 20 #[.val (.ref u0)] [(.ref u0)])) _
    refine st4 _ ?_
    show Steps p.tables e below (T4.setTop (mkF m 23 #[.val (.ref u0)] [.null])) _
    refine XS.ifnullYes X4.here hx rfl (pc0 := 23) (pc' := 30) rfl (hb hby d6_23) rfl (by decide) (by decide) ?_
    show Steps p.tables e below (T4.setTop (mkF m 30 #[.val (.ref u0)] [])) _
    refine XS.iconst X4.here hx rfl (hb hby d6_30) ?_
    show Steps p.tables e below (T4.setTop (mkF m 31 #[.val (.ref u0)] [(.int (0 : Int32))])) _
    exact retN X4 hx (t := .boolean) Bd.returns (by simp) (hb hby d6_31) hr
  · show Q6 Z u0 h0 n0 _ T4.heap _
    rw [e4]
    exact ⟨rfl, N0, rfl⟩
theorem d7_0 : decode prog_28_method_5_code 0 = .ok (.aload_n 0, 1) := by decide +kernel
theorem d7_1 : decode prog_28_method_5_code 1 = .ok (.getfield 68, 3) := by decide +kernel
theorem d7_4 : decode prog_28_method_5_code 4 = .ok (.ifnonnull 16, 3) := by decide +kernel
theorem d7_7 : decode prog_28_method_5_code 7 = .ok (.aload_n 0, 1) := by decide +kernel
theorem d7_8 : decode prog_28_method_5_code 8 = .ok (.getfield 23, 3) := by decide +kernel
theorem d7_11 : decode prog_28_method_5_code 11 = .ok (.bipush 8, 2) := by decide +kernel
theorem d7_13 : decode prog_28_method_5_code 13 = .ok (.if_icmp .le 7, 3) := by decide +kernel
theorem d7_20 : decode prog_28_method_5_code 20 = .ok (.iconst 0, 1) := by decide +kernel
theorem d7_21 : decode prog_28_method_5_code 21 = .ok (.ireturn, 1) := by decide +kernel
theorem ef_7 (m : MethodId) (u0 : Addr) : entryFrame m #[(.ref u0)] 1 = mkF m 0 #[.val (.ref u0)] [] := by first | (simp [entryFrame, mkF, argsToLocals, Value.category]; done) | rfl
def Q7 (Z : State) (u0 : Addr) (w1 : Int32) (h0 : Heap) (n0 : Nat) (v : Option Value) (h : Heap) (L : List Loc) : Prop := v = some (.int (0 : Int32)) ∧ Fr n0 L ∧ h = h0
set_option maxRecDepth 65536 in
set_option maxHeartbeats 40000000 in
theorem rm7 (l : Launch) (Z : State) (a0 : Array Value) (hw : ∀ d ∈ tables_1, d.before a0 Z = true) (ws : List Jvm.Cond) (u0 : Addr) (w1 : Int32) (h0 : Heap) (n0 : Nat) (Z0 : n0 ≤ h0.size) (F_heads_u0 : Fld Z h0 u0 "com/example/rehydra/rehydra/KeySlots" "heads" "[I" .null) (F_count_u0 : Fld Z h0 u0 "com/example/rehydra/rehydra/KeySlots" "count" "I" (.int w1)) (hle : ¬ (8 : Int32) < w1) :
    MetFree l (⟨"com/example/rehydra/rehydra/KeySlots", "crowded", "()Z"⟩ : MethodName) (head1 (Jvm.Cond.code (⟨"com/example/rehydra/rehydra/KeySlots", "crowded", "()Z"⟩ : MethodName) prog_28_method_5_code 1 (some .boolean) :: ws) ({ frames := 0, cells := 0, slots := 0, locals := 0 } : Room)) (fun a U => a = #[(.ref u0)] ∧ Z.Warmed39 U.vm ∧ U.heap = h0) (fun _ _ _ _ _ => True) (fun _ U o U' => ∃ v L, o = .returned v ∧ Q7 Z u0 w1 h0 n0 v U'.heap L ∧ FrameEnd U o U' L ({ frames := 0, cells := 0, slots := 0, locals := 0 } : Room).cells ({ frames := 0, cells := 0, slots := 0, locals := 0 } : Room).slots) := by
  refine MetFree.of_bodySF (plainFor_of_name pn_com_example_rehydra_rehydra_KeySlots) hisR ?_
  intro p e s m args below meth c s₁ Bd hml0 hP hK
  obtain ⟨rfl, hZ, hh⟩ := hP
  have hx := Bd.exec
  have hby := Bd.bytes
  have hml : c.maxLocals = 1 := hml0
  have hown : s.vm.findClass "com/example/rehydra/rehydra/KeySlots" = some m.cls := findClass_of_methodNamed Bd.named
  have hnm := (name_of_methodNamed Bd.named Bd.method).1
  have X0 : Stand p l e ({ frames := 0, cells := 0, slots := 0, locals := 0 } : Room) s m #[(.ref u0)] below meth c s₁ [] 0 0 := Stand.of_body Bd
  have e0 : s₁.heap = h0 := by rw [← hh, Bd.state]; rfl
  have N0 := Fr.nil n0
  have pre0 : ∀ t, Steps p.tables e below (s₁.setTop (mkF m 0 #[.val (.ref u0)] [])) t → Steps p.tables e below (s₁.setTop (entryFrame m #[(.ref u0)] 1)) t := fun t k => castTop (ef_7 m u0) k
  obtain ⟨T1, X1, e1, st1⟩ := getF X0 hx hZ hown (host := "") (Or.inl (hw _ (List.mem_of_getElem? (i := 41) rfl))) Via.refl e0 F_heads_u0 (g := (mkF m 1 #[.val (.ref u0)] [(.ref u0)])) rfl rfl (hb hby d7_1)
  obtain ⟨T2, X2, e2, st2⟩ := getF X1 hx hZ hown (host := "") (Or.inl (hw _ (List.mem_of_getElem? (i := 17) rfl))) Via.refl e1 F_count_u0 (g := (mkF m 8 #[.val (.ref u0)] [(.ref u0)])) rfl rfl (hb hby d7_8)
  obtain ⟨fs, hr, hrun, hended, hW, hsame⟩ := X2.leave (v := some (.int (0 : Int32))) (fun h => by rw [Bd.returns] at h; cases h)
  refine ⟨_, _, pre0 _ ?_, hrun, hended, _, _, rfl, ?_, ⟨_, rfl⟩, hW, hsame.mono (by decide) (by decide)⟩
  · show Steps p.tables e below (s₁.setTop (mkF m 0 #[.val (.ref u0)] [])) _
    refine XS.aloadN X0.here hx rfl (hb hby d7_0) rfl rfl ?_
    show Steps p.tables e below (s₁.setTop (mkF m 1 #[.val (.ref u0)] [(.ref u0)])) _
    refine st1 _ ?_
    show Steps p.tables e below (T1.setTop (mkF m 4 #[.val (.ref u0)] [.null])) _
    refine XS.ifnonnullNo X1.here hx rfl (hb hby d7_4) rfl ?_
    show Steps p.tables e below (T1.setTop (mkF m 7 #[.val (.ref u0)] [])) _
    refine XS.aloadN X1.here hx rfl (hb hby d7_7) rfl rfl ?_
    show Steps p.tables e below (T1.setTop (mkF m 8 #[.val (.ref u0)] [(.ref u0)])) _
    refine st2 _ ?_
    show Steps p.tables e below (T2.setTop (mkF m 11 #[.val (.ref u0)] [(.int w1)])) _
    refine XS.bipush X2.here hx rfl (hb hby d7_11) ?_
    show Steps p.tables e below (T2.setTop (mkF m 13 #[.val (.ref u0)] [(.int (8 : Int32)), (.int w1)])) _
    refine XS.icmpYes X2.here hx rfl (pc0 := 13) (pc' := 20) rfl (hb hby d7_13) rfl (flt hle).2.2.2 (by decide) (by decide) ?_
    show Steps p.tables e below (T2.setTop (mkF m 20 #[.val (.ref u0)] [])) _
    refine XS.iconst X2.here hx rfl (hb hby d7_20) ?_
    show Steps p.tables e below (T2.setTop (mkF m 21 #[.val (.ref u0)] [(.int (0 : Int32))])) _
    exact retN X2 hx (t := .boolean) Bd.returns (by simp) (hb hby d7_21) hr
  · show Q7 Z u0 w1 h0 n0 _ T2.heap _
    rw [e2]
    exact ⟨rfl, N0, rfl⟩
theorem d10_0 : decode jdk_30_method_1_code 0 = .ok (.aload_n 0, 1) := by decide +kernel
theorem d10_1 : decode jdk_30_method_1_code 1 = .ok (.invokespecial 1, 3) := by decide +kernel
theorem d10_4 : decode jdk_30_method_1_code 4 = .ok (.return_, 1) := by decide +kernel
theorem pn_java_lang_Record : plainName "java/lang/Record" = true := by first | (simp [plainName, overriddenIn]; done) | decide +kernel
theorem ef_10 (m : MethodId) (u0 : Addr) : entryFrame m #[(.ref u0)] 1 = mkF m 0 #[.val (.ref u0)] [] := by first | (simp [entryFrame, mkF, argsToLocals, Value.category]; done) | rfl
def Q10 (Z : State) (u0 : Addr) (h0 : Heap) (n0 : Nat) (v : Option Value) (h : Heap) (L : List Loc) : Prop := v = none ∧ Fr n0 L ∧ h = h0
set_option maxRecDepth 65536 in
set_option maxHeartbeats 40000000 in
theorem rm10 (l : Launch) (Z : State) (a0 : Array Value) (hw : ∀ d ∈ tables_1, d.before a0 Z = true) (ws : List Jvm.Cond) (u0 : Addr) (h0 : Heap) (n0 : Nat) (Z0 : n0 ≤ h0.size) :
    MetFree l (⟨"java/lang/Record", "<init>", "()V"⟩ : MethodName) (head1 (Jvm.Cond.code (⟨"java/lang/Record", "<init>", "()V"⟩ : MethodName) jdk_30_method_1_code 1 none :: ws) ({ frames := 1, cells := 0, slots := 0, locals := 12 } : Room)) (fun a U => a = #[(.ref u0)] ∧ Z.Warmed39 U.vm ∧ U.heap = h0) (fun _ _ _ _ _ => True) (fun _ U o U' => ∃ v L, o = .returned v ∧ Q10 Z u0 h0 n0 v U'.heap L ∧ FrameEnd U o U' L ({ frames := 1, cells := 0, slots := 0, locals := 12 } : Room).cells ({ frames := 1, cells := 0, slots := 0, locals := 12 } : Room).slots) := by
  refine MetFree.of_bodySF (plainFor_of_name pn_java_lang_Record) hisR ?_
  intro p e s m args below meth c s₁ Bd hml0 hP hK
  obtain ⟨rfl, hZ, hh⟩ := hP
  have hx := Bd.exec
  have hby := Bd.bytes
  have hml : c.maxLocals = 1 := hml0
  have hown : s.vm.findClass "java/lang/Record" = some m.cls := findClass_of_methodNamed Bd.named
  have hnm := (name_of_methodNamed Bd.named Bd.method).1
  have X0 : Stand p l e ({ frames := 1, cells := 0, slots := 0, locals := 12 } : Room) s m #[(.ref u0)] below meth c s₁ [] 0 0 := Stand.of_body Bd
  have e0 : s₁.heap = h0 := by rw [← hh, Bd.state]; rfl
  have N0 := Fr.nil n0
  have pre0 : ∀ t, Steps p.tables e below (s₁.setTop (mkF m 0 #[.val (.ref u0)] [])) t → Steps p.tables e below (s₁.setTop (entryFrame m #[(.ref u0)] 1)) t := fun t k => castTop (ef_10 m u0) k
  obtain ⟨T1, X1, e1, st1⟩ := initO X0 hx hZ hown (hw _ (List.mem_of_getElem? (i := 59) rfl)) (hw _ (List.mem_of_getElem? (i := 11) rfl)) (hw _ (List.mem_of_getElem? (i := 12) rfl)) e0 (g := (mkF m 1 #[.val (.ref u0)] [(.ref u0)])) rfl (by rw [hml]; rfl) rfl (hb hby d10_1) (by decide) (W := 0) (by show 2 * 0 + _ ≤ _; exact Nat.le_of_eq rfl) (by decide)
  obtain ⟨fs, hr, hrun, hended, hW, hsame⟩ := X1.leave (v := none) (fun _ => rfl)
  refine ⟨_, _, pre0 _ ?_, hrun, hended, _, _, rfl, ?_, ⟨_, rfl⟩, hW, hsame.mono (by decide) (by decide)⟩
  · show Steps p.tables e below (s₁.setTop (mkF m 0 #[.val (.ref u0)] [])) _
    refine XS.aloadN X0.here hx rfl (hb hby d10_0) rfl rfl ?_
    show Steps p.tables e below (s₁.setTop (mkF m 1 #[.val (.ref u0)] [(.ref u0)])) _
    refine st1 _ ?_
    show Steps p.tables e below (T1.setTop (mkF m 4 #[.val (.ref u0)] [])) _
    exact X1.returnOut hx Bd.returns (hb hby d10_4) hr
  · show Q10 Z u0 h0 n0 _ T1.heap _
    rw [e1]
    exact ⟨rfl, N0, rfl⟩
theorem pd_1 : parseMethodDescriptor "()V" = some ⟨[], none⟩ := by decide +kernel
theorem d9_0 : decode prog_29_method_1_code 0 = .ok (.aload_n 0, 1) := by decide +kernel
theorem d9_1 : decode prog_29_method_1_code 1 = .ok (.invokespecial 1, 3) := by decide +kernel
theorem d9_4 : decode prog_29_method_1_code 4 = .ok (.aload_n 0, 1) := by decide +kernel
theorem d9_5 : decode prog_29_method_1_code 5 = .ok (.iload_n 1, 1) := by decide +kernel
theorem d9_6 : decode prog_29_method_1_code 6 = .ok (.putfield 7, 3) := by decide +kernel
theorem d9_9 : decode prog_29_method_1_code 9 = .ok (.aload_n 0, 1) := by decide +kernel
theorem d9_10 : decode prog_29_method_1_code 10 = .ok (.iload_n 2, 1) := by decide +kernel
theorem d9_11 : decode prog_29_method_1_code 11 = .ok (.putfield 13, 3) := by decide +kernel
theorem d9_14 : decode prog_29_method_1_code 14 = .ok (.aload_n 0, 1) := by decide +kernel
theorem d9_15 : decode prog_29_method_1_code 15 = .ok (.iload_n 3, 1) := by decide +kernel
theorem d9_16 : decode prog_29_method_1_code 16 = .ok (.putfield 16, 3) := by decide +kernel
theorem d9_19 : decode prog_29_method_1_code 19 = .ok (.return_, 1) := by decide +kernel
theorem pn_com_example_rehydra_rehydra_KeySlots_Walk : plainName "com/example/rehydra/rehydra/KeySlots$Walk" = true := by first | (simp [plainName, overriddenIn]; done) | decide +kernel
theorem ef_9 (m : MethodId) (u0 : Addr) (u1 : Int32) (u2 : Int32) (u3 : Int32) : entryFrame m #[(.ref u0), (.int u1), (.int u2), (.int u3)] 4 = mkF m 0 #[.val (.ref u0), .val (.int u1), .val (.int u2), .val (.int u3)] [] := by first | (simp [entryFrame, mkF, argsToLocals, Value.category]; done) | rfl
def Q9 (Z : State) (u0 : Addr) (u1 : Int32) (u2 : Int32) (u3 : Int32) (h0 : Heap) (n0 : Nat) (v : Option Value) (h : Heap) (L : List Loc) : Prop := v = none ∧ Fr n0 L ∧ Keep h0 h [u0] ∧ Exa Z h u0 "com/example/rehydra/rehydra/KeySlots$Walk" ∧ Fld Z h u0 "com/example/rehydra/rehydra/KeySlots$Walk" "keys" "I" (.int u1) ∧ Fld Z h u0 "com/example/rehydra/rehydra/KeySlots$Walk" "sameHash" "I" (.int u2) ∧ Fld Z h u0 "com/example/rehydra/rehydra/KeySlots$Walk" "largestReach" "I" (.int u3)
set_option maxRecDepth 65536 in
set_option maxHeartbeats 40000000 in
theorem rm9 (l : Launch) (Z : State) (a0 : Array Value) (hw : ∀ d ∈ tables_1, d.before a0 Z = true) (ws : List Jvm.Cond) (u0 : Addr) (u1 : Int32) (u2 : Int32) (u3 : Int32) (h0 : Heap) (n0 : Nat) (Z0 : n0 ≤ h0.size) (g_u0 : n0 ≤ u0) (E_u0 : Exa Z h0 u0 "com/example/rehydra/rehydra/KeySlots$Walk") (F_keys_u0 : Fld Z h0 u0 "com/example/rehydra/rehydra/KeySlots$Walk" "keys" "I" (.int (0 : Int32))) (F_sameHash_u0 : Fld Z h0 u0 "com/example/rehydra/rehydra/KeySlots$Walk" "sameHash" "I" (.int (0 : Int32))) (F_largestReach_u0 : Fld Z h0 u0 "com/example/rehydra/rehydra/KeySlots$Walk" "largestReach" "I" (.int (0 : Int32))) :
    MetFree l (⟨"com/example/rehydra/rehydra/KeySlots$Walk", "<init>", "(III)V"⟩ : MethodName) (head1 (Jvm.Cond.code (⟨"com/example/rehydra/rehydra/KeySlots$Walk", "<init>", "(III)V"⟩ : MethodName) prog_29_method_1_code 4 none :: ws) ({ frames := 2, cells := 0, slots := 0, locals := 24 } : Room)) (fun a U => a = #[(.ref u0), (.int u1), (.int u2), (.int u3)] ∧ Z.Warmed39 U.vm ∧ U.heap = h0) (fun _ _ _ _ _ => True) (fun _ U o U' => ∃ v L, o = .returned v ∧ Q9 Z u0 u1 u2 u3 h0 n0 v U'.heap L ∧ FrameEnd U o U' L ({ frames := 2, cells := 0, slots := 0, locals := 24 } : Room).cells ({ frames := 2, cells := 0, slots := 0, locals := 24 } : Room).slots) := by
  refine MetFree.of_bodySF (plainFor_of_name pn_com_example_rehydra_rehydra_KeySlots_Walk) hisR ?_
  intro p e s m args below meth c s₁ Bd hml0 hP hK
  obtain ⟨rfl, hZ, hh⟩ := hP
  have hx := Bd.exec
  have hby := Bd.bytes
  have hml : c.maxLocals = 4 := hml0
  have hown : s.vm.findClass "com/example/rehydra/rehydra/KeySlots$Walk" = some m.cls := findClass_of_methodNamed Bd.named
  have hnm := (name_of_methodNamed Bd.named Bd.method).1
  have X0 : Stand p l e ({ frames := 2, cells := 0, slots := 0, locals := 24 } : Room) s m #[(.ref u0), (.int u1), (.int u2), (.int u3)] below meth c s₁ [] 0 0 := Stand.of_body Bd
  have e0 : s₁.heap = h0 := by rw [← hh, Bd.state]; rfl
  have N0 := Fr.nil n0
  have pre0 : ∀ t, Steps p.tables e below (s₁.setTop (mkF m 0 #[.val (.ref u0), .val (.int u1), .val (.int u2), .val (.int u3)] [])) t → Steps p.tables e below (s₁.setTop (entryFrame m #[(.ref u0), (.int u1), (.int u2), (.int u3)] 4)) t := fun t k => castTop (ef_9 m u0 u1 u2 u3) k
  obtain ⟨_, _, ⟨T1, L1, k1, n1⟩, -, X1, ⟨Lc1, hQ1, l1, y1, z1⟩, st1⟩ := X0.specialBack hx (y := (⟨"java/lang/Record", "<init>", "()V"⟩ : MethodName)) rfl hown (mvT hZ (hw _ (List.mem_of_getElem? (i := 54) rfl))) (mvT hZ (hw _ (List.mem_of_getElem? (i := 55) rfl))) (mvT hZ (hw _ (List.mem_of_getElem? (i := 58) rfl))) (by decide) (backOf (W := 0) (rm10 l Z a0 hw [] u0 h0 n0 Z0 ) hZ (hw _ (List.mem_of_getElem? (i := 58) rfl)) (hw _ (List.mem_of_getElem? (i := 57) rfl)) (by decide) (by decide)) (g := (mkF m 1 #[.val (.ref u0), .val (.int u1), .val (.int u2), .val (.int u3)] [(.ref u0)])) rfl (by rw [hml]; rfl) (Steps.refl _) (a := u0) (argsL := []) (rest := []) (lenOf pd_1 rfl) rfl (by show 2 * 0 + _ ≤ _; exact Nat.le_of_eq rfl) (hb hby d9_1) (fun _ _ => ⟨rfl, e0, (by decide : 0 + 0 ≤ _), (by decide : 0 + 0 ≤ _)⟩)
  dsimp only [Pt.U, Pt.locs, Pt.cells, Pt.slots] at X1 l1 y1 z1 st1 hQ1
  subst l1 y1 z1
  obtain ⟨rfl, N1q, e1⟩ := hQ1
  have N1 := Fr.app N0 N1q
  obtain ⟨T2, h2, X2, e2, W2, st2⟩ := putF X1 hx hZ hown (host := "") (Or.inl (hw _ (List.mem_of_getElem? (i := 60) rfl))) Via.refl e1 F_keys_u0 E_u0 (Or.inr ⟨(hw _ (List.mem_of_getElem? (i := 61) rfl)), rfl, hnm⟩) (hw _ (List.mem_of_getElem? (i := 49) rfl)) (ty := .int) (by decide) rfl rfl (g := (mkF m 6 #[.val (.ref u0), .val (.int u1), .val (.int u2), .val (.int u3)] [(.int u1), (.ref u0)])) rfl rfl (hb hby d9_6)
  have Fw2 := F_keys_u0.same W2
  have N2 := Fr.snoc X2 N1 g_u0
  have Z2 : n0 ≤ h2.size := Nat.le_trans Z0 (Keep.of_wr W2).1
  have KK2 := (Keep.refl h0 [u0]).wr W2 (Or.inl (List.mem_of_getElem? (i := 0) rfl))
  obtain ⟨T3, h3, X3, e3, W3, st3⟩ := putF X2 hx hZ hown (host := "") (Or.inl (hw _ (List.mem_of_getElem? (i := 62) rfl))) Via.refl e2 (F_sameHash_u0.other W2 (Or.inr (slot_ne (Or.inr (hw _ (List.mem_of_getElem? (i := 63) rfl))) (Or.inr (hw _ (List.mem_of_getElem? (i := 61) rfl))) (by decide) (t := .int) (t' := .int) (by decide) (by decide)))) (E_u0.wr W2) (Or.inr ⟨(hw _ (List.mem_of_getElem? (i := 63) rfl)), rfl, hnm⟩) (hw _ (List.mem_of_getElem? (i := 49) rfl)) (ty := .int) (by decide) rfl rfl (g := (mkF m 11 #[.val (.ref u0), .val (.int u1), .val (.int u2), .val (.int u3)] [(.int u2), (.ref u0)])) rfl rfl (hb hby d9_11)
  have Fw3 := (F_sameHash_u0.other W2 (Or.inr (slot_ne (Or.inr (hw _ (List.mem_of_getElem? (i := 63) rfl))) (Or.inr (hw _ (List.mem_of_getElem? (i := 61) rfl))) (by decide) (t := .int) (t' := .int) (by decide) (by decide)))).same W3
  have N3 := Fr.snoc X3 N2 g_u0
  have Z3 : n0 ≤ h3.size := Nat.le_trans Z2 (Keep.of_wr W3).1
  have KK3 := KK2.wr W3 (Or.inl (List.mem_of_getElem? (i := 0) rfl))
  obtain ⟨T4, h4, X4, e4, W4, st4⟩ := putF X3 hx hZ hown (host := "") (Or.inl (hw _ (List.mem_of_getElem? (i := 64) rfl))) Via.refl e3 ((F_largestReach_u0.other W2 (Or.inr (slot_ne (Or.inr (hw _ (List.mem_of_getElem? (i := 65) rfl))) (Or.inr (hw _ (List.mem_of_getElem? (i := 61) rfl))) (by decide) (t := .int) (t' := .int) (by decide) (by decide)))).other W3 (Or.inr (slot_ne (Or.inr (hw _ (List.mem_of_getElem? (i := 65) rfl))) (Or.inr (hw _ (List.mem_of_getElem? (i := 63) rfl))) (by decide) (t := .int) (t' := .int) (by decide) (by decide)))) ((E_u0.wr W2).wr W3) (Or.inr ⟨(hw _ (List.mem_of_getElem? (i := 65) rfl)), rfl, hnm⟩) (hw _ (List.mem_of_getElem? (i := 49) rfl)) (ty := .int) (by decide) rfl rfl (g := (mkF m 16 #[.val (.ref u0), .val (.int u1), .val (.int u2), .val (.int u3)] [(.int u3), (.ref u0)])) rfl rfl (hb hby d9_16)
  have Fw4 := ((F_largestReach_u0.other W2 (Or.inr (slot_ne (Or.inr (hw _ (List.mem_of_getElem? (i := 65) rfl))) (Or.inr (hw _ (List.mem_of_getElem? (i := 61) rfl))) (by decide) (t := .int) (t' := .int) (by decide) (by decide)))).other W3 (Or.inr (slot_ne (Or.inr (hw _ (List.mem_of_getElem? (i := 65) rfl))) (Or.inr (hw _ (List.mem_of_getElem? (i := 63) rfl))) (by decide) (t := .int) (t' := .int) (by decide) (by decide)))).same W4
  have N4 := Fr.snoc X4 N3 g_u0
  have Z4 : n0 ≤ h4.size := Nat.le_trans Z3 (Keep.of_wr W4).1
  have KK4 := KK3.wr W4 (Or.inl (List.mem_of_getElem? (i := 0) rfl))
  obtain ⟨fs, hr, hrun, hended, hW, hsame⟩ := X4.leave (v := none) (fun _ => rfl)
  refine ⟨_, _, pre0 _ ?_, hrun, hended, _, _, rfl, ?_, ⟨_, rfl⟩, hW, hsame.mono (by decide) (by decide)⟩
  · show Steps p.tables e below (s₁.setTop (mkF m 0 #[.val (.ref u0), .val (.int u1), .val (.int u2), .val (.int u3)] [])) _
    refine XS.aloadN X0.here hx rfl (hb hby d9_0) rfl rfl ?_
    show Steps p.tables e below (s₁.setTop (mkF m 1 #[.val (.ref u0), .val (.int u1), .val (.int u2), .val (.int u3)] [(.ref u0)])) _
    refine st1.trans ?_
    show Steps p.tables e below (T1.setTop (mkF m 4 #[.val (.ref u0), .val (.int u1), .val (.int u2), .val (.int u3)] [])) _
    refine XS.aloadN X1.here hx rfl (hb hby d9_4) rfl rfl ?_
    show Steps p.tables e below (T1.setTop (mkF m 5 #[.val (.ref u0), .val (.int u1), .val (.int u2), .val (.int u3)] [(.ref u0)])) _
    refine XS.iloadN X1.here hx rfl (hb hby d9_5) rfl ?_
    show Steps p.tables e below (T1.setTop (mkF m 6 #[.val (.ref u0), .val (.int u1), .val (.int u2), .val (.int u3)] [(.int u1), (.ref u0)])) _
    refine st2 _ ?_
    show Steps p.tables e below (T2.setTop (mkF m 9 #[.val (.ref u0), .val (.int u1), .val (.int u2), .val (.int u3)] [])) _
    refine XS.aloadN X2.here hx rfl (hb hby d9_9) rfl rfl ?_
    show Steps p.tables e below (T2.setTop (mkF m 10 #[.val (.ref u0), .val (.int u1), .val (.int u2), .val (.int u3)] [(.ref u0)])) _
    refine XS.iloadN X2.here hx rfl (hb hby d9_10) rfl ?_
    show Steps p.tables e below (T2.setTop (mkF m 11 #[.val (.ref u0), .val (.int u1), .val (.int u2), .val (.int u3)] [(.int u2), (.ref u0)])) _
    refine st3 _ ?_
    show Steps p.tables e below (T3.setTop (mkF m 14 #[.val (.ref u0), .val (.int u1), .val (.int u2), .val (.int u3)] [])) _
    refine XS.aloadN X3.here hx rfl (hb hby d9_14) rfl rfl ?_
    show Steps p.tables e below (T3.setTop (mkF m 15 #[.val (.ref u0), .val (.int u1), .val (.int u2), .val (.int u3)] [(.ref u0)])) _
    refine XS.iloadN X3.here hx rfl (hb hby d9_15) rfl ?_
    show Steps p.tables e below (T3.setTop (mkF m 16 #[.val (.ref u0), .val (.int u1), .val (.int u2), .val (.int u3)] [(.int u3), (.ref u0)])) _
    refine st4 _ ?_
    show Steps p.tables e below (T4.setTop (mkF m 19 #[.val (.ref u0), .val (.int u1), .val (.int u2), .val (.int u3)] [])) _
    exact X4.returnOut hx Bd.returns (hb hby d9_19) hr
  · show Q9 Z u0 u1 u2 u3 h0 n0 _ T4.heap _
    rw [e4]
    exact ⟨rfl, N4, KK4, (((E_u0.wr W2).wr W3).wr W4), ((Fw2.other W3 (Or.inr (slot_ne (Or.inr (hw _ (List.mem_of_getElem? (i := 61) rfl))) (Or.inr (hw _ (List.mem_of_getElem? (i := 63) rfl))) (by decide) (t := .int) (t' := .int) (by decide) (by decide)))).other W4 (Or.inr (slot_ne (Or.inr (hw _ (List.mem_of_getElem? (i := 61) rfl))) (Or.inr (hw _ (List.mem_of_getElem? (i := 65) rfl))) (by decide) (t := .int) (t' := .int) (by decide) (by decide)))), (Fw3.other W4 (Or.inr (slot_ne (Or.inr (hw _ (List.mem_of_getElem? (i := 63) rfl))) (Or.inr (hw _ (List.mem_of_getElem? (i := 65) rfl))) (by decide) (t := .int) (t' := .int) (by decide) (by decide)))), Fw4⟩
theorem pd_6 : parseMethodDescriptor "(III)V" = some ⟨[.int, .int, .int], none⟩ := by decide +kernel
theorem d8_0 : decode prog_28_method_8_code 0 = .ok (.iconst 0, 1) := by decide +kernel
theorem d8_1 : decode prog_28_method_8_code 1 = .ok (.istore_n 2, 1) := by decide +kernel
theorem d8_2 : decode prog_28_method_8_code 2 = .ok (.iconst 0, 1) := by decide +kernel
theorem d8_3 : decode prog_28_method_8_code 3 = .ok (.istore_n 3, 1) := by decide +kernel
theorem d8_4 : decode prog_28_method_8_code 4 = .ok (.iconst 1, 1) := by decide +kernel
theorem d8_5 : decode prog_28_method_8_code 5 = .ok (.istore 4, 2) := by decide +kernel
theorem d8_7 : decode prog_28_method_8_code 7 = .ok (.aload_n 0, 1) := by decide +kernel
theorem d8_8 : decode prog_28_method_8_code 8 = .ok (.getfield 68, 3) := by decide +kernel
theorem d8_11 : decode prog_28_method_8_code 11 = .ok (.ifnonnull 69, 3) := by decide +kernel
theorem d8_14 : decode prog_28_method_8_code 14 = .ok (.aload_n 0, 1) := by decide +kernel
theorem d8_15 : decode prog_28_method_8_code 15 = .ok (.getfield 23, 3) := by decide +kernel
theorem d8_18 : decode prog_28_method_8_code 18 = .ok (.istore_n 2, 1) := by decide +kernel
theorem d8_19 : decode prog_28_method_8_code 19 = .ok (.aload_n 0, 1) := by decide +kernel
theorem d8_20 : decode prog_28_method_8_code 20 = .ok (.getfield 23, 3) := by decide +kernel
theorem d8_23 : decode prog_28_method_8_code 23 = .ok (.istore_n 3, 1) := by decide +kernel
theorem d8_24 : decode prog_28_method_8_code 24 = .ok (.iconst 0, 1) := by decide +kernel
theorem d8_25 : decode prog_28_method_8_code 25 = .ok (.istore 5, 2) := by decide +kernel
theorem d8_27 : decode prog_28_method_8_code 27 = .ok (.aload_n 0, 1) := by decide +kernel
theorem d8_28 : decode prog_28_method_8_code 28 = .ok (.getfield 64, 3) := by decide +kernel
theorem d8_31 : decode prog_28_method_8_code 31 = .ok (.ifnull 46, 3) := by decide +kernel
theorem d8_77 : decode prog_28_method_8_code 77 = .ok (.goto 74, 3) := by decide +kernel
theorem d8_151 : decode prog_28_method_8_code 151 = .ok (.new 84, 3) := by decide +kernel
theorem d8_154 : decode prog_28_method_8_code 154 = .ok (.dup, 1) := by decide +kernel
theorem d8_155 : decode prog_28_method_8_code 155 = .ok (.iload_n 2, 1) := by decide +kernel
theorem d8_156 : decode prog_28_method_8_code 156 = .ok (.iload_n 3, 1) := by decide +kernel
theorem d8_157 : decode prog_28_method_8_code 157 = .ok (.iload 4, 2) := by decide +kernel
theorem d8_159 : decode prog_28_method_8_code 159 = .ok (.invokespecial 86, 3) := by decide +kernel
theorem d8_162 : decode prog_28_method_8_code 162 = .ok (.areturn, 1) := by decide +kernel
theorem ef_8 (m : MethodId) (u0 : Addr) (u1 : Int32) : entryFrame m #[(.ref u0), (.int u1)] 6 = mkF m 0 #[.val (.ref u0), .val (.int u1), .unset, .unset, .unset, .unset] [] := by first | (simp [entryFrame, mkF, argsToLocals, Value.category]; done) | rfl
def Q8 (Z : State) (u0 : Addr) (u1 : Int32) (w1 : Int32) (h0 : Heap) (n0 : Nat) (v : Option Value) (h : Heap) (L : List Loc) : Prop := v = some (.ref h0.size) ∧ Fr n0 L ∧ Keep h0 h [] ∧ Exa Z h h0.size "com/example/rehydra/rehydra/KeySlots$Walk" ∧ Fld Z h h0.size "com/example/rehydra/rehydra/KeySlots$Walk" "keys" "I" (.int w1) ∧ Fld Z h h0.size "com/example/rehydra/rehydra/KeySlots$Walk" "sameHash" "I" (.int w1) ∧ Fld Z h h0.size "com/example/rehydra/rehydra/KeySlots$Walk" "largestReach" "I" (.int (1 : Int32))
set_option maxRecDepth 65536 in
set_option maxHeartbeats 40000000 in
theorem rm8 (l : Launch) (Z : State) (a0 : Array Value) (hw : ∀ d ∈ tables_1, d.before a0 Z = true) (ws : List Jvm.Cond) (u0 : Addr) (u1 : Int32) (w1 : Int32) (h0 : Heap) (n0 : Nat) (Z0 : n0 ≤ h0.size) (F_heads_u0 : Fld Z h0 u0 "com/example/rehydra/rehydra/KeySlots" "heads" "[I" .null) (F_count_u0 : Fld Z h0 u0 "com/example/rehydra/rehydra/KeySlots" "count" "I" (.int w1)) (F_large_u0 : Fld Z h0 u0 "com/example/rehydra/rehydra/KeySlots" "large" "[I" .null) :
    MetFree l (⟨"com/example/rehydra/rehydra/KeySlots", "walk", "(I)Lcom/example/rehydra/rehydra/KeySlots$Walk;"⟩ : MethodName) (head1 (Jvm.Cond.code (⟨"com/example/rehydra/rehydra/KeySlots", "walk", "(I)Lcom/example/rehydra/rehydra/KeySlots$Walk;"⟩ : MethodName) prog_28_method_8_code 6 (some (.object "com/example/rehydra/rehydra/KeySlots$Walk")) :: ws) ({ frames := 3, cells := 1, slots := 3, locals := 40 } : Room)) (fun a U => a = #[(.ref u0), (.int u1)] ∧ Z.Warmed39 U.vm ∧ U.heap = h0) (fun _ _ _ _ _ => True) (fun _ U o U' => ∃ v L, o = .returned v ∧ Q8 Z u0 u1 w1 h0 n0 v U'.heap L ∧ FrameEnd U o U' L ({ frames := 3, cells := 1, slots := 3, locals := 40 } : Room).cells ({ frames := 3, cells := 1, slots := 3, locals := 40 } : Room).slots) := by
  refine MetFree.of_bodySF (plainFor_of_name pn_com_example_rehydra_rehydra_KeySlots) hisR ?_
  intro p e s m args below meth c s₁ Bd hml0 hP hK
  obtain ⟨rfl, hZ, hh⟩ := hP
  have hx := Bd.exec
  have hby := Bd.bytes
  have hml : c.maxLocals = 6 := hml0
  have hown : s.vm.findClass "com/example/rehydra/rehydra/KeySlots" = some m.cls := findClass_of_methodNamed Bd.named
  have hnm := (name_of_methodNamed Bd.named Bd.method).1
  have X0 : Stand p l e ({ frames := 3, cells := 1, slots := 3, locals := 40 } : Room) s m #[(.ref u0), (.int u1)] below meth c s₁ [] 0 0 := Stand.of_body Bd
  have e0 : s₁.heap = h0 := by rw [← hh, Bd.state]; rfl
  have N0 := Fr.nil n0
  have pre0 : ∀ t, Steps p.tables e below (s₁.setTop (mkF m 0 #[.val (.ref u0), .val (.int u1), .unset, .unset, .unset, .unset] [])) t → Steps p.tables e below (s₁.setTop (entryFrame m #[(.ref u0), (.int u1)] 6)) t := fun t k => castTop (ef_8 m u0 u1) k
  obtain ⟨T1, X1, e1, st1⟩ := getF X0 hx hZ hown (host := "") (Or.inl (hw _ (List.mem_of_getElem? (i := 41) rfl))) Via.refl e0 F_heads_u0 (g := (mkF m 8 #[.val (.ref u0), .val (.int u1), .val (.int (0 : Int32)), .val (.int (0 : Int32)), .val (.int (1 : Int32)), .unset] [(.ref u0)])) rfl rfl (hb hby d8_8)
  obtain ⟨T2, X2, e2, st2⟩ := getF X1 hx hZ hown (host := "") (Or.inl (hw _ (List.mem_of_getElem? (i := 17) rfl))) Via.refl e1 F_count_u0 (g := (mkF m 15 #[.val (.ref u0), .val (.int u1), .val (.int (0 : Int32)), .val (.int (0 : Int32)), .val (.int (1 : Int32)), .unset] [(.ref u0)])) rfl rfl (hb hby d8_15)
  obtain ⟨T3, X3, e3, st3⟩ := getF X2 hx hZ hown (host := "") (Or.inl (hw _ (List.mem_of_getElem? (i := 17) rfl))) Via.refl e2 F_count_u0 (g := (mkF m 20 #[.val (.ref u0), .val (.int u1), .val (.int w1), .val (.int (0 : Int32)), .val (.int (1 : Int32)), .unset] [(.ref u0)])) rfl rfl (hb hby d8_20)
  obtain ⟨T4, X4, e4, st4⟩ := getF X3 hx hZ hown (host := "") (Or.inl (hw _ (List.mem_of_getElem? (i := 34) rfl))) Via.refl e3 F_large_u0 (g := (mkF m 28 #[.val (.ref u0), .val (.int u1), .val (.int w1), .val (.int w1), .val (.int (1 : Int32)), .val (.int (0 : Int32))] [(.ref u0)])) rfl rfl (hb hby d8_28)
  obtain ⟨T5, h5, X5, e5, E5, A5, D5, -, st5⟩ := newO X4 hx hZ hown (hw _ (List.mem_of_getElem? (i := 48) rfl)) (hw _ (List.mem_of_getElem? (i := 49) rfl)) (hw _ (List.mem_of_getElem? (i := 50) rfl)) e4 (g := (mkF m 151 #[.val (.ref u0), .val (.int u1), .val (.int w1), .val (.int w1), .val (.int (1 : Int32)), .val (.int (0 : Int32))] [])) rfl (hb hby d8_151) (by decide) (by decide)
  obtain ⟨b5, g5⟩ : ∃ z, z = h0.size := ⟨_, rfl⟩
  rw [← g5] at A5 D5 st5
  have g_b5 : n0 ≤ b5 := Nat.le_trans Z0 (Nat.le_of_eq g5.symm)
  have sz_b5 : h0.size ≤ b5 := Nat.le_trans (Keep.refl h0 []).1 (Nat.le_of_eq g5.symm)
  have Z5 : n0 ≤ h5.size := Nat.le_trans Z0 E5.1
  have KK5 := (Keep.refl h0 []).ext E5
  have F5_keys : Fld Z h5 b5 "com/example/rehydra/rehydra/KeySlots$Walk" "keys" "I" (.int (0 : Int32)) := D5 (Or.inr (hw _ (List.mem_of_getElem? (i := 61) rfl))) (ty := .int) (by decide)
  have F5_sameHash : Fld Z h5 b5 "com/example/rehydra/rehydra/KeySlots$Walk" "sameHash" "I" (.int (0 : Int32)) := D5 (Or.inr (hw _ (List.mem_of_getElem? (i := 63) rfl))) (ty := .int) (by decide)
  have F5_largestReach : Fld Z h5 b5 "com/example/rehydra/rehydra/KeySlots$Walk" "largestReach" "I" (.int (0 : Int32)) := D5 (Or.inr (hw _ (List.mem_of_getElem? (i := 65) rfl))) (ty := .int) (by decide)
  obtain ⟨_, _, ⟨T6, L6, k6, n6⟩, -, X6, ⟨Lc6, hQ6, l6, y6, z6⟩, st6⟩ := X5.specialBack hx (y := (⟨"com/example/rehydra/rehydra/KeySlots$Walk", "<init>", "(III)V"⟩ : MethodName)) rfl hown (mvT hZ (hw _ (List.mem_of_getElem? (i := 51) rfl))) (mvT hZ (hw _ (List.mem_of_getElem? (i := 52) rfl))) (mvT hZ (hw _ (List.mem_of_getElem? (i := 53) rfl))) (by decide) (backOf (W := 1) (rm9 l Z a0 hw [] b5 w1 w1 (1 : Int32) h5 n0 Z5 g_b5 A5 F5_keys F5_sameHash F5_largestReach) hZ (hw _ (List.mem_of_getElem? (i := 53) rfl)) (hw _ (List.mem_of_getElem? (i := 50) rfl)) (by decide) (by decide)) (g := (mkF m 159 #[.val (.ref u0), .val (.int u1), .val (.int w1), .val (.int w1), .val (.int (1 : Int32)), .val (.int (0 : Int32))] [(.int (1 : Int32)), (.int w1), (.int w1), (.ref b5), (.ref b5)])) rfl (by rw [hml]; rfl) (Steps.refl _) (a := b5) (argsL := [(.int w1), (.int w1), (.int (1 : Int32))]) (rest := [(.ref b5)]) (lenOf pd_6 rfl) rfl (by show 2 * 0 + _ ≤ _; exact Nat.le_of_eq rfl) (hb hby d8_159) (fun _ _ => ⟨rfl, e5, (by decide : 1 + 0 ≤ _), (by decide : 3 + 0 ≤ _)⟩)
  dsimp only [Pt.U, Pt.locs, Pt.cells, Pt.slots] at X6 l6 y6 z6 st6 hQ6
  subst l6 y6 z6
  obtain ⟨rfl, N6q, K6, A6, F6_keys, F6_sameHash, F6_largestReach⟩ := hQ6
  have N6 := Fr.app N0 N6q
  have Z6 : n0 ≤ T6.heap.size := Nat.le_trans Z5 K6.1
  have KK6 := KK5.trans K6 (allS (P := fun x => x ∈ [] ∨ h0.size ≤ x) (Or.inr sz_b5) all0)
  obtain ⟨fs, hr, hrun, hended, hW, hsame⟩ := X6.leave (v := some (.ref b5)) (fun h => by rw [Bd.returns] at h; cases h)
  refine ⟨_, _, pre0 _ ?_, hrun, hended, _, _, rfl, ?_, ⟨_, rfl⟩, hW, hsame.mono (by decide) (by decide)⟩
  · show Steps p.tables e below (s₁.setTop (mkF m 0 #[.val (.ref u0), .val (.int u1), .unset, .unset, .unset, .unset] [])) _
    refine XS.iconst X0.here hx rfl (hb hby d8_0) ?_
    show Steps p.tables e below (s₁.setTop (mkF m 1 #[.val (.ref u0), .val (.int u1), .unset, .unset, .unset, .unset] [(.int (0 : Int32))])) _
    refine XS.istoreN X0.here hx rfl (hb hby d8_1) rfl (l' := #[.val (.ref u0), .val (.int u1), .val (.int (0 : Int32)), .unset, .unset, .unset]) rfl ?_
    show Steps p.tables e below (s₁.setTop (mkF m 2 #[.val (.ref u0), .val (.int u1), .val (.int (0 : Int32)), .unset, .unset, .unset] [])) _
    refine XS.iconst X0.here hx rfl (hb hby d8_2) ?_
    show Steps p.tables e below (s₁.setTop (mkF m 3 #[.val (.ref u0), .val (.int u1), .val (.int (0 : Int32)), .unset, .unset, .unset] [(.int (0 : Int32))])) _
    refine XS.istoreN X0.here hx rfl (hb hby d8_3) rfl (l' := #[.val (.ref u0), .val (.int u1), .val (.int (0 : Int32)), .val (.int (0 : Int32)), .unset, .unset]) rfl ?_
    show Steps p.tables e below (s₁.setTop (mkF m 4 #[.val (.ref u0), .val (.int u1), .val (.int (0 : Int32)), .val (.int (0 : Int32)), .unset, .unset] [])) _
    refine XS.iconst X0.here hx rfl (hb hby d8_4) ?_
    show Steps p.tables e below (s₁.setTop (mkF m 5 #[.val (.ref u0), .val (.int u1), .val (.int (0 : Int32)), .val (.int (0 : Int32)), .unset, .unset] [(.int (1 : Int32))])) _
    refine XS.istore X0.here hx rfl (hb hby d8_5) rfl (l' := #[.val (.ref u0), .val (.int u1), .val (.int (0 : Int32)), .val (.int (0 : Int32)), .val (.int (1 : Int32)), .unset]) rfl ?_
    show Steps p.tables e below (s₁.setTop (mkF m 7 #[.val (.ref u0), .val (.int u1), .val (.int (0 : Int32)), .val (.int (0 : Int32)), .val (.int (1 : Int32)), .unset] [])) _
    refine XS.aloadN X0.here hx rfl (hb hby d8_7) rfl rfl ?_
    show Steps p.tables e below (s₁.setTop (mkF m 8 #[.val (.ref u0), .val (.int u1), .val (.int (0 : Int32)), .val (.int (0 : Int32)), .val (.int (1 : Int32)), .unset] [(.ref u0)])) _
    refine st1 _ ?_
    show Steps p.tables e below (T1.setTop (mkF m 11 #[.val (.ref u0), .val (.int u1), .val (.int (0 : Int32)), .val (.int (0 : Int32)), .val (.int (1 : Int32)), .unset] [.null])) _
    refine XS.ifnonnullNo X1.here hx rfl (hb hby d8_11) rfl ?_
    show Steps p.tables e below (T1.setTop (mkF m 14 #[.val (.ref u0), .val (.int u1), .val (.int (0 : Int32)), .val (.int (0 : Int32)), .val (.int (1 : Int32)), .unset] [])) _
    refine XS.aloadN X1.here hx rfl (hb hby d8_14) rfl rfl ?_
    show Steps p.tables e below (T1.setTop (mkF m 15 #[.val (.ref u0), .val (.int u1), .val (.int (0 : Int32)), .val (.int (0 : Int32)), .val (.int (1 : Int32)), .unset] [(.ref u0)])) _
    refine st2 _ ?_
    show Steps p.tables e below (T2.setTop (mkF m 18 #[.val (.ref u0), .val (.int u1), .val (.int (0 : Int32)), .val (.int (0 : Int32)), .val (.int (1 : Int32)), .unset] [(.int w1)])) _
    refine XS.istoreN X2.here hx rfl (hb hby d8_18) rfl (l' := #[.val (.ref u0), .val (.int u1), .val (.int w1), .val (.int (0 : Int32)), .val (.int (1 : Int32)), .unset]) rfl ?_
    show Steps p.tables e below (T2.setTop (mkF m 19 #[.val (.ref u0), .val (.int u1), .val (.int w1), .val (.int (0 : Int32)), .val (.int (1 : Int32)), .unset] [])) _
    refine XS.aloadN X2.here hx rfl (hb hby d8_19) rfl rfl ?_
    show Steps p.tables e below (T2.setTop (mkF m 20 #[.val (.ref u0), .val (.int u1), .val (.int w1), .val (.int (0 : Int32)), .val (.int (1 : Int32)), .unset] [(.ref u0)])) _
    refine st3 _ ?_
    show Steps p.tables e below (T3.setTop (mkF m 23 #[.val (.ref u0), .val (.int u1), .val (.int w1), .val (.int (0 : Int32)), .val (.int (1 : Int32)), .unset] [(.int w1)])) _
    refine XS.istoreN X3.here hx rfl (hb hby d8_23) rfl (l' := #[.val (.ref u0), .val (.int u1), .val (.int w1), .val (.int w1), .val (.int (1 : Int32)), .unset]) rfl ?_
    show Steps p.tables e below (T3.setTop (mkF m 24 #[.val (.ref u0), .val (.int u1), .val (.int w1), .val (.int w1), .val (.int (1 : Int32)), .unset] [])) _
    refine XS.iconst X3.here hx rfl (hb hby d8_24) ?_
    show Steps p.tables e below (T3.setTop (mkF m 25 #[.val (.ref u0), .val (.int u1), .val (.int w1), .val (.int w1), .val (.int (1 : Int32)), .unset] [(.int (0 : Int32))])) _
    refine XS.istore X3.here hx rfl (hb hby d8_25) rfl (l' := #[.val (.ref u0), .val (.int u1), .val (.int w1), .val (.int w1), .val (.int (1 : Int32)), .val (.int (0 : Int32))]) rfl ?_
    show Steps p.tables e below (T3.setTop (mkF m 27 #[.val (.ref u0), .val (.int u1), .val (.int w1), .val (.int w1), .val (.int (1 : Int32)), .val (.int (0 : Int32))] [])) _
    refine XS.aloadN X3.here hx rfl (hb hby d8_27) rfl rfl ?_
    show Steps p.tables e below (T3.setTop (mkF m 28 #[.val (.ref u0), .val (.int u1), .val (.int w1), .val (.int w1), .val (.int (1 : Int32)), .val (.int (0 : Int32))] [(.ref u0)])) _
    refine st4 _ ?_
    show Steps p.tables e below (T4.setTop (mkF m 31 #[.val (.ref u0), .val (.int u1), .val (.int w1), .val (.int w1), .val (.int (1 : Int32)), .val (.int (0 : Int32))] [.null])) _
    refine XS.ifnullYes X4.here hx rfl (pc0 := 31) (pc' := 77) rfl (hb hby d8_31) rfl (by decide) (by decide) ?_
    show Steps p.tables e below (T4.setTop (mkF m 77 #[.val (.ref u0), .val (.int u1), .val (.int w1), .val (.int w1), .val (.int (1 : Int32)), .val (.int (0 : Int32))] [])) _
    refine XS.goto X4.here hx rfl (pc0 := 77) (pc' := 151) rfl (hb hby d8_77) (by decide) (by decide) ?_
    show Steps p.tables e below (T4.setTop (mkF m 151 #[.val (.ref u0), .val (.int u1), .val (.int w1), .val (.int w1), .val (.int (1 : Int32)), .val (.int (0 : Int32))] [])) _
    refine st5 _ ?_
    show Steps p.tables e below (T5.setTop (mkF m 154 #[.val (.ref u0), .val (.int u1), .val (.int w1), .val (.int w1), .val (.int (1 : Int32)), .val (.int (0 : Int32))] [(.ref b5)])) _
    refine XS.dup X5.here hx rfl (hb hby d8_154) rfl rfl ?_
    show Steps p.tables e below (T5.setTop (mkF m 155 #[.val (.ref u0), .val (.int u1), .val (.int w1), .val (.int w1), .val (.int (1 : Int32)), .val (.int (0 : Int32))] [(.ref b5), (.ref b5)])) _
    refine XS.iloadN X5.here hx rfl (hb hby d8_155) rfl ?_
    show Steps p.tables e below (T5.setTop (mkF m 156 #[.val (.ref u0), .val (.int u1), .val (.int w1), .val (.int w1), .val (.int (1 : Int32)), .val (.int (0 : Int32))] [(.int w1), (.ref b5), (.ref b5)])) _
    refine XS.iloadN X5.here hx rfl (hb hby d8_156) rfl ?_
    show Steps p.tables e below (T5.setTop (mkF m 157 #[.val (.ref u0), .val (.int u1), .val (.int w1), .val (.int w1), .val (.int (1 : Int32)), .val (.int (0 : Int32))] [(.int w1), (.int w1), (.ref b5), (.ref b5)])) _
    refine XS.iload X5.here hx rfl (hb hby d8_157) rfl ?_
    show Steps p.tables e below (T5.setTop (mkF m 159 #[.val (.ref u0), .val (.int u1), .val (.int w1), .val (.int w1), .val (.int (1 : Int32)), .val (.int (0 : Int32))] [(.int (1 : Int32)), (.int w1), (.int w1), (.ref b5), (.ref b5)])) _
    refine st6.trans ?_
    show Steps p.tables e below (T6.setTop (mkF m 162 #[.val (.ref u0), .val (.int u1), .val (.int w1), .val (.int w1), .val (.int (1 : Int32)), .val (.int (0 : Int32))] [(.ref b5)])) _
    jvm_step X6.here [X6.here.top, hx, (hb hby d8_162), X6.method', Bd.returns, Value.isRef, FieldType.isReference]
    first | (intro acts; rw [hr _ acts rfl rfl rfl]) | rw [hr _ _ rfl rfl rfl]
    exact Steps.refl _
  · show Q8 Z u0 u1 w1 h0 n0 _ T6.heap _
    exact ⟨(by rw [g5]), N6, KK6, (by rw [← g5]; exact A6), (by rw [← g5]; exact F6_keys), (by rw [← g5]; exact F6_sameHash), (by rw [← g5]; exact F6_largestReach)⟩
theorem d11_0 : decode prog_29_method_5_code 0 = .ok (.aload_n 0, 1) := by decide +kernel
theorem d11_1 : decode prog_29_method_5_code 1 = .ok (.getfield 7, 3) := by decide +kernel
theorem d11_4 : decode prog_29_method_5_code 4 = .ok (.ireturn, 1) := by decide +kernel
theorem ef_11 (m : MethodId) (u0 : Addr) : entryFrame m #[(.ref u0)] 1 = mkF m 0 #[.val (.ref u0)] [] := by first | (simp [entryFrame, mkF, argsToLocals, Value.category]; done) | rfl
def Q11 (Z : State) (u0 : Addr) (w1 : Int32) (h0 : Heap) (n0 : Nat) (v : Option Value) (h : Heap) (L : List Loc) : Prop := v = some (.int w1) ∧ Fr n0 L ∧ h = h0
set_option maxRecDepth 65536 in
set_option maxHeartbeats 40000000 in
theorem rm11 (l : Launch) (Z : State) (a0 : Array Value) (hw : ∀ d ∈ tables_1, d.before a0 Z = true) (ws : List Jvm.Cond) (u0 : Addr) (w1 : Int32) (h0 : Heap) (n0 : Nat) (Z0 : n0 ≤ h0.size) (F_u0 : Fld Z h0 u0 "com/example/rehydra/rehydra/KeySlots$Walk" "keys" "I" (.int w1)) :
    MetFree l (⟨"com/example/rehydra/rehydra/KeySlots$Walk", "keys", "()I"⟩ : MethodName) (head1 (Jvm.Cond.code (⟨"com/example/rehydra/rehydra/KeySlots$Walk", "keys", "()I"⟩ : MethodName) prog_29_method_5_code 1 (some .int) :: ws) ({ frames := 0, cells := 0, slots := 0, locals := 0 } : Room)) (fun a U => a = #[(.ref u0)] ∧ Z.Warmed39 U.vm ∧ U.heap = h0) (fun _ _ _ _ _ => True) (fun _ U o U' => ∃ v L, o = .returned v ∧ Q11 Z u0 w1 h0 n0 v U'.heap L ∧ FrameEnd U o U' L ({ frames := 0, cells := 0, slots := 0, locals := 0 } : Room).cells ({ frames := 0, cells := 0, slots := 0, locals := 0 } : Room).slots) := by
  refine MetFree.of_bodySF (plainFor_of_name pn_com_example_rehydra_rehydra_KeySlots_Walk) hisR ?_
  intro p e s m args below meth c s₁ Bd hml0 hP hK
  obtain ⟨rfl, hZ, hh⟩ := hP
  have hx := Bd.exec
  have hby := Bd.bytes
  have hml : c.maxLocals = 1 := hml0
  have hown : s.vm.findClass "com/example/rehydra/rehydra/KeySlots$Walk" = some m.cls := findClass_of_methodNamed Bd.named
  have hnm := (name_of_methodNamed Bd.named Bd.method).1
  have X0 : Stand p l e ({ frames := 0, cells := 0, slots := 0, locals := 0 } : Room) s m #[(.ref u0)] below meth c s₁ [] 0 0 := Stand.of_body Bd
  have e0 : s₁.heap = h0 := by rw [← hh, Bd.state]; rfl
  have N0 := Fr.nil n0
  have pre0 : ∀ t, Steps p.tables e below (s₁.setTop (mkF m 0 #[.val (.ref u0)] [])) t → Steps p.tables e below (s₁.setTop (entryFrame m #[(.ref u0)] 1)) t := fun t k => castTop (ef_11 m u0) k
  obtain ⟨T1, X1, e1, st1⟩ := getF X0 hx hZ hown (host := "") (Or.inl (hw _ (List.mem_of_getElem? (i := 60) rfl))) Via.refl e0 F_u0 (g := (mkF m 1 #[.val (.ref u0)] [(.ref u0)])) rfl rfl (hb hby d11_1)
  obtain ⟨fs, hr, hrun, hended, hW, hsame⟩ := X1.leave (v := some (.int w1)) (fun h => by rw [Bd.returns] at h; cases h)
  refine ⟨_, _, pre0 _ ?_, hrun, hended, _, _, rfl, ?_, ⟨_, rfl⟩, hW, hsame.mono (by decide) (by decide)⟩
  · show Steps p.tables e below (s₁.setTop (mkF m 0 #[.val (.ref u0)] [])) _
    refine XS.aloadN X0.here hx rfl (hb hby d11_0) rfl rfl ?_
    show Steps p.tables e below (s₁.setTop (mkF m 1 #[.val (.ref u0)] [(.ref u0)])) _
    refine st1 _ ?_
    show Steps p.tables e below (T1.setTop (mkF m 4 #[.val (.ref u0)] [(.int w1)])) _
    exact retI X1 hx Bd.returns (hb hby d11_4) hr
  · show Q11 Z u0 w1 h0 n0 _ T1.heap _
    rw [e1]
    exact ⟨rfl, N0, rfl⟩
theorem d12_0 : decode prog_29_method_6_code 0 = .ok (.aload_n 0, 1) := by decide +kernel
theorem d12_1 : decode prog_29_method_6_code 1 = .ok (.getfield 13, 3) := by decide +kernel
theorem d12_4 : decode prog_29_method_6_code 4 = .ok (.ireturn, 1) := by decide +kernel
theorem ef_12 (m : MethodId) (u0 : Addr) : entryFrame m #[(.ref u0)] 1 = mkF m 0 #[.val (.ref u0)] [] := by first | (simp [entryFrame, mkF, argsToLocals, Value.category]; done) | rfl
def Q12 (Z : State) (u0 : Addr) (w1 : Int32) (h0 : Heap) (n0 : Nat) (v : Option Value) (h : Heap) (L : List Loc) : Prop := v = some (.int w1) ∧ Fr n0 L ∧ h = h0
set_option maxRecDepth 65536 in
set_option maxHeartbeats 40000000 in
theorem rm12 (l : Launch) (Z : State) (a0 : Array Value) (hw : ∀ d ∈ tables_1, d.before a0 Z = true) (ws : List Jvm.Cond) (u0 : Addr) (w1 : Int32) (h0 : Heap) (n0 : Nat) (Z0 : n0 ≤ h0.size) (F_u0 : Fld Z h0 u0 "com/example/rehydra/rehydra/KeySlots$Walk" "sameHash" "I" (.int w1)) :
    MetFree l (⟨"com/example/rehydra/rehydra/KeySlots$Walk", "sameHash", "()I"⟩ : MethodName) (head1 (Jvm.Cond.code (⟨"com/example/rehydra/rehydra/KeySlots$Walk", "sameHash", "()I"⟩ : MethodName) prog_29_method_6_code 1 (some .int) :: ws) ({ frames := 0, cells := 0, slots := 0, locals := 0 } : Room)) (fun a U => a = #[(.ref u0)] ∧ Z.Warmed39 U.vm ∧ U.heap = h0) (fun _ _ _ _ _ => True) (fun _ U o U' => ∃ v L, o = .returned v ∧ Q12 Z u0 w1 h0 n0 v U'.heap L ∧ FrameEnd U o U' L ({ frames := 0, cells := 0, slots := 0, locals := 0 } : Room).cells ({ frames := 0, cells := 0, slots := 0, locals := 0 } : Room).slots) := by
  refine MetFree.of_bodySF (plainFor_of_name pn_com_example_rehydra_rehydra_KeySlots_Walk) hisR ?_
  intro p e s m args below meth c s₁ Bd hml0 hP hK
  obtain ⟨rfl, hZ, hh⟩ := hP
  have hx := Bd.exec
  have hby := Bd.bytes
  have hml : c.maxLocals = 1 := hml0
  have hown : s.vm.findClass "com/example/rehydra/rehydra/KeySlots$Walk" = some m.cls := findClass_of_methodNamed Bd.named
  have hnm := (name_of_methodNamed Bd.named Bd.method).1
  have X0 : Stand p l e ({ frames := 0, cells := 0, slots := 0, locals := 0 } : Room) s m #[(.ref u0)] below meth c s₁ [] 0 0 := Stand.of_body Bd
  have e0 : s₁.heap = h0 := by rw [← hh, Bd.state]; rfl
  have N0 := Fr.nil n0
  have pre0 : ∀ t, Steps p.tables e below (s₁.setTop (mkF m 0 #[.val (.ref u0)] [])) t → Steps p.tables e below (s₁.setTop (entryFrame m #[(.ref u0)] 1)) t := fun t k => castTop (ef_12 m u0) k
  obtain ⟨T1, X1, e1, st1⟩ := getF X0 hx hZ hown (host := "") (Or.inl (hw _ (List.mem_of_getElem? (i := 62) rfl))) Via.refl e0 F_u0 (g := (mkF m 1 #[.val (.ref u0)] [(.ref u0)])) rfl rfl (hb hby d12_1)
  obtain ⟨fs, hr, hrun, hended, hW, hsame⟩ := X1.leave (v := some (.int w1)) (fun h => by rw [Bd.returns] at h; cases h)
  refine ⟨_, _, pre0 _ ?_, hrun, hended, _, _, rfl, ?_, ⟨_, rfl⟩, hW, hsame.mono (by decide) (by decide)⟩
  · show Steps p.tables e below (s₁.setTop (mkF m 0 #[.val (.ref u0)] [])) _
    refine XS.aloadN X0.here hx rfl (hb hby d12_0) rfl rfl ?_
    show Steps p.tables e below (s₁.setTop (mkF m 1 #[.val (.ref u0)] [(.ref u0)])) _
    refine st1 _ ?_
    show Steps p.tables e below (T1.setTop (mkF m 4 #[.val (.ref u0)] [(.int w1)])) _
    exact retI X1 hx Bd.returns (hb hby d12_4) hr
  · show Q12 Z u0 w1 h0 n0 _ T1.heap _
    rw [e1]
    exact ⟨rfl, N0, rfl⟩
theorem d13_0 : decode prog_29_method_7_code 0 = .ok (.aload_n 0, 1) := by decide +kernel
theorem d13_1 : decode prog_29_method_7_code 1 = .ok (.getfield 16, 3) := by decide +kernel
theorem d13_4 : decode prog_29_method_7_code 4 = .ok (.ireturn, 1) := by decide +kernel
theorem ef_13 (m : MethodId) (u0 : Addr) : entryFrame m #[(.ref u0)] 1 = mkF m 0 #[.val (.ref u0)] [] := by first | (simp [entryFrame, mkF, argsToLocals, Value.category]; done) | rfl
def Q13 (Z : State) (u0 : Addr) (w1 : Int32) (h0 : Heap) (n0 : Nat) (v : Option Value) (h : Heap) (L : List Loc) : Prop := v = some (.int w1) ∧ Fr n0 L ∧ h = h0
set_option maxRecDepth 65536 in
set_option maxHeartbeats 40000000 in
theorem rm13 (l : Launch) (Z : State) (a0 : Array Value) (hw : ∀ d ∈ tables_1, d.before a0 Z = true) (ws : List Jvm.Cond) (u0 : Addr) (w1 : Int32) (h0 : Heap) (n0 : Nat) (Z0 : n0 ≤ h0.size) (F_u0 : Fld Z h0 u0 "com/example/rehydra/rehydra/KeySlots$Walk" "largestReach" "I" (.int w1)) :
    MetFree l (⟨"com/example/rehydra/rehydra/KeySlots$Walk", "largestReach", "()I"⟩ : MethodName) (head1 (Jvm.Cond.code (⟨"com/example/rehydra/rehydra/KeySlots$Walk", "largestReach", "()I"⟩ : MethodName) prog_29_method_7_code 1 (some .int) :: ws) ({ frames := 0, cells := 0, slots := 0, locals := 0 } : Room)) (fun a U => a = #[(.ref u0)] ∧ Z.Warmed39 U.vm ∧ U.heap = h0) (fun _ _ _ _ _ => True) (fun _ U o U' => ∃ v L, o = .returned v ∧ Q13 Z u0 w1 h0 n0 v U'.heap L ∧ FrameEnd U o U' L ({ frames := 0, cells := 0, slots := 0, locals := 0 } : Room).cells ({ frames := 0, cells := 0, slots := 0, locals := 0 } : Room).slots) := by
  refine MetFree.of_bodySF (plainFor_of_name pn_com_example_rehydra_rehydra_KeySlots_Walk) hisR ?_
  intro p e s m args below meth c s₁ Bd hml0 hP hK
  obtain ⟨rfl, hZ, hh⟩ := hP
  have hx := Bd.exec
  have hby := Bd.bytes
  have hml : c.maxLocals = 1 := hml0
  have hown : s.vm.findClass "com/example/rehydra/rehydra/KeySlots$Walk" = some m.cls := findClass_of_methodNamed Bd.named
  have hnm := (name_of_methodNamed Bd.named Bd.method).1
  have X0 : Stand p l e ({ frames := 0, cells := 0, slots := 0, locals := 0 } : Room) s m #[(.ref u0)] below meth c s₁ [] 0 0 := Stand.of_body Bd
  have e0 : s₁.heap = h0 := by rw [← hh, Bd.state]; rfl
  have N0 := Fr.nil n0
  have pre0 : ∀ t, Steps p.tables e below (s₁.setTop (mkF m 0 #[.val (.ref u0)] [])) t → Steps p.tables e below (s₁.setTop (entryFrame m #[(.ref u0)] 1)) t := fun t k => castTop (ef_13 m u0) k
  obtain ⟨T1, X1, e1, st1⟩ := getF X0 hx hZ hown (host := "") (Or.inl (hw _ (List.mem_of_getElem? (i := 64) rfl))) Via.refl e0 F_u0 (g := (mkF m 1 #[.val (.ref u0)] [(.ref u0)])) rfl rfl (hb hby d13_1)
  obtain ⟨fs, hr, hrun, hended, hW, hsame⟩ := X1.leave (v := some (.int w1)) (fun h => by rw [Bd.returns] at h; cases h)
  refine ⟨_, _, pre0 _ ?_, hrun, hended, _, _, rfl, ?_, ⟨_, rfl⟩, hW, hsame.mono (by decide) (by decide)⟩
  · show Steps p.tables e below (s₁.setTop (mkF m 0 #[.val (.ref u0)] [])) _
    refine XS.aloadN X0.here hx rfl (hb hby d13_0) rfl rfl ?_
    show Steps p.tables e below (s₁.setTop (mkF m 1 #[.val (.ref u0)] [(.ref u0)])) _
    refine st1 _ ?_
    show Steps p.tables e below (T1.setTop (mkF m 4 #[.val (.ref u0)] [(.int w1)])) _
    exact retI X1 hx Bd.returns (hb hby d13_4) hr
  · show Q13 Z u0 w1 h0 n0 _ T1.heap _
    rw [e1]
    exact ⟨rfl, N0, rfl⟩
theorem pd_4 : parseMethodDescriptor "(I)Lcom/example/rehydra/rehydra/KeySlots;" = some ⟨[.int], some (.object "com/example/rehydra/rehydra/KeySlots")⟩ := by decide +kernel
theorem pd_0 : parseMethodDescriptor "()I" = some ⟨[], some .int⟩ := by decide +kernel
theorem pd_2 : parseMethodDescriptor "()Z" = some ⟨[], some .boolean⟩ := by decide +kernel
theorem pd_3 : parseMethodDescriptor "(I)Lcom/example/rehydra/rehydra/KeySlots$Walk;" = some ⟨[.int], some (.object "com/example/rehydra/rehydra/KeySlots$Walk")⟩ := by decide +kernel
theorem pn_com_example_rehydra_rehydra_KeySlotsBuiltWithNoValuesPinLaw : plainName "com/example/rehydra/rehydra/KeySlotsBuiltWithNoValuesPinLaw" = true := by first | (simp [plainName, overriddenIn]; done) | decide +kernel
theorem ef_0 (m : MethodId) (u0 : Int32) (u1 : Int32) (u2 : Int32) : entryFrame m #[(.int u0), (.int u1), (.int u2)] maxLocals = mkF m 0 #[.val (.int u0), .val (.int u1), .val (.int u2), .unset, .unset, .unset, .unset] [] := by first | (simp [entryFrame, mkF, argsToLocals, Value.category, maxLocals]; done) | rfl
def Q0 (Z : State) (u0 : Int32) (u1 : Int32) (u2 : Int32) (h0 : Heap) (n0 : Nat) (v : Option Value) (h : Heap) (L : List Loc) : Prop := v = some (.int (1 : Int32)) ∧ Fr n0 L
set_option maxRecDepth 65536 in
set_option maxHeartbeats 40000000 in
theorem rm0 (l : Launch) (Z : State) (a0 : Array Value) (hw : ∀ d ∈ tables_1, d.before a0 Z = true) (ws : List Jvm.Cond) (u0 : Int32) (u1 : Int32) (u2 : Int32) (h0 : Heap) (n0 : Nat) (Z0 : n0 ≤ h0.size) :
    MetFree l x (head1 (Jvm.Cond.code x code maxLocals ret :: ws) room_1) (fun a U => a = #[(.int u0), (.int u1), (.int u2)] ∧ Z.Warmed39 U.vm ∧ U.heap = h0) (fun _ _ _ _ _ => True) (fun _ U o U' => ∃ v L, o = .returned v ∧ Q0 Z u0 u1 u2 h0 n0 v U'.heap L ∧ FrameEnd U o U' L room_1.cells room_1.slots) := by
  refine MetFree.of_bodySF (plainFor_of_name pn_com_example_rehydra_rehydra_KeySlotsBuiltWithNoValuesPinLaw) hisR ?_
  intro p e s m args below meth c s₁ Bd hml0 hP hK
  obtain ⟨rfl, hZ, hh⟩ := hP
  have hx := Bd.exec
  have hby := Bd.bytes
  have hml : c.maxLocals = 7 := hml0
  have hown : s.vm.findClass "com/example/rehydra/rehydra/KeySlotsBuiltWithNoValuesPinLaw" = some m.cls := findClass_of_methodNamed Bd.named
  have hnm := (name_of_methodNamed Bd.named Bd.method).1
  have X0 : Stand p l e room_1 s m #[(.int u0), (.int u1), (.int u2)] below meth c s₁ [] 0 0 := Stand.of_body Bd
  have e0 : s₁.heap = h0 := by rw [← hh, Bd.state]; rfl
  have N0 := Fr.nil n0
  have pre0 : ∀ t, Steps p.tables e below (s₁.setTop (mkF m 0 #[.val (.int u0), .val (.int u1), .val (.int u2), .unset, .unset, .unset, .unset] [])) t → Steps p.tables e below (s₁.setTop (entryFrame m #[(.int u0), (.int u1), (.int u2)] maxLocals)) t := fun t k => castTop (ef_0 m u0 u1 u2) k
  by_cases hc3 : (u1 &&& (1 : Int32)) = (0 : Int32)
  · have st1 := X0.ldcInt hx hown (mvT hZ (hw _ (List.mem_of_getElem? (i := 81) rfl))) (g := (mkF m 14 #[.val (.int u0), .val (.int u1), .val (.int u2), .unset, .unset, .unset, .unset] [(.int u0)])) rfl (hb hby at_14)
    by_cases hc21 : (8 : Int32) < (u0 &&& (2147483647 : Int32))
    · obtain ⟨_, _, ⟨T2, L2, k2, n2⟩, -, X2, ⟨Lc2, hQ2, l2, y2, z2⟩, st2⟩ := Jvm.LawKit.callS X0 hx (y := (⟨"com/example/rehydra/rehydra/KeySlots", "builtWithNoValues", "(I)Lcom/example/rehydra/rehydra/KeySlots;"⟩ : MethodName)) hown (mvT hZ (hw _ (List.mem_of_getElem? (i := 0) rfl))) (mvT hZ (hw _ (List.mem_of_getElem? (i := 1) rfl))) (mvT hZ (hw _ (List.mem_of_getElem? (i := 2) rfl))) (mvT hZ (hw _ (List.mem_of_getElem? (i := 3) rfl))) (by decide) (backOf (W := 0) (rm1 l Z a0 hw [] (u0 &&& (2147483647 : Int32)) h0 n0 Z0 ) hZ (hw _ (List.mem_of_getElem? (i := 3) rfl)) (hw _ (List.mem_of_getElem? (i := 2) rfl)) (by decide) (by decide)) (g := (mkF m 32 #[.val (.int u0), .val (.int u1), .val (.int u2), .val (.int (u0 &&& (2147483647 : Int32))), .val (.int (0 : Int32)), .unset, .unset] [(.int (u0 &&& (2147483647 : Int32)))])) rfl (by rw [hml]; rfl) (argsL := [(.int (u0 &&& (2147483647 : Int32)))]) (rest := []) (lenOf pd_4 rfl) rfl (by show 2 * 0 + _ ≤ _; exact Nat.le_of_eq rfl) (hb hby at_32) (fun _ _ => ⟨rfl, e0, (by decide : 0 + 1 ≤ _), (by decide : 0 + 8 ≤ _)⟩)
      dsimp only [Pt.U, Pt.locs, Pt.cells, Pt.slots] at X2 l2 y2 z2 st2 hQ2
      subst l2 y2 z2
      obtain ⟨hv2, N2q, K2, A2, F2_count, F2_capacity, F2_loadFactor, F2_large, F2_heads⟩ := hQ2
      obtain ⟨b2, g2⟩ : ∃ z, z = h0.size := ⟨_, rfl⟩
      rw [← g2] at hv2 A2 F2_count F2_capacity F2_loadFactor F2_large F2_heads
      subst hv2
      have g_b2 : n0 ≤ b2 := Nat.le_trans Z0 (Nat.le_of_eq g2.symm)
      have sz_b2 : h0.size ≤ b2 := Nat.le_trans (Keep.refl h0 []).1 (Nat.le_of_eq g2.symm)
      have N2 := Fr.app N0 N2q
      have Z2 : n0 ≤ T2.heap.size := Nat.le_trans Z0 K2.1
      have KK2 := (Keep.refl h0 []).trans K2 all0
      obtain ⟨cq3, kq3, q3a, q3b, q3c⟩ := isOf hZ rfl A2
      obtain ⟨_, _, ⟨T3, L3, k3, n3⟩, -, X3, ⟨Lc3, hQ3, l3, y3, z3⟩, st3⟩ := X2.virtualBack hx (y := (⟨"com/example/rehydra/rehydra/KeySlots", "count", "()I"⟩ : MethodName)) (z := (⟨"com/example/rehydra/rehydra/KeySlots", "count", "()I"⟩ : MethodName)) hown (mvT hZ (hw _ (List.mem_of_getElem? (i := 19) rfl))) (mvT hZ (hw _ (List.mem_of_getElem? (i := 20) rfl))) (notFace_of_selects (args := #[]) (mvT hZ (hw _ (List.mem_of_getElem? (i := 22) rfl)))) (mvT hZ (hw _ (List.mem_of_getElem? (i := 22) rfl))) (mvT hZ (hw _ (List.mem_of_getElem? (i := 21) rfl))) (by decide) (backOf (W := 0) (rm4 l Z a0 hw [] b2 (cnt (u0 &&& (2147483647 : Int32))) T2.heap n0 Z2 F2_count) hZ (hw _ (List.mem_of_getElem? (i := 23) rfl)) (hw _ (List.mem_of_getElem? (i := 2) rfl)) (by decide) (by decide)) q3a q3c (g := (mkF m 39 #[.val (.int u0), .val (.int u1), .val (.int u2), .val (.int (u0 &&& (2147483647 : Int32))), .val (.int (0 : Int32)), .val (.ref b2), .unset] [(.ref b2)])) rfl (by rw [hml]; rfl) (Steps.refl _) (argsL := []) (rest := []) (lenOf pd_0 rfl) rfl (by show 2 * 0 + _ ≤ _; exact Nat.le_of_eq rfl) (hb hby at_39) (fun _ _ => ⟨rfl, rfl, (by decide : 1 + 0 ≤ _), (by decide : 8 + 0 ≤ _)⟩)
      dsimp only [Pt.U, Pt.locs, Pt.cells, Pt.slots] at X3 l3 y3 z3 st3 hQ3
      subst l3 y3 z3
      obtain ⟨rfl, N3q, e3⟩ := hQ3
      have N3 := Fr.app N2 N3q
      obtain ⟨cq4, kq4, q4a, q4b, q4c⟩ := isOf hZ e3 A2
      obtain ⟨_, _, ⟨T4, L4, k4, n4⟩, -, X4, ⟨Lc4, hQ4, l4, y4, z4⟩, st4⟩ := X3.virtualBack hx (y := (⟨"com/example/rehydra/rehydra/KeySlots", "capacity", "()I"⟩ : MethodName)) (z := (⟨"com/example/rehydra/rehydra/KeySlots", "capacity", "()I"⟩ : MethodName)) hown (mvT hZ (hw _ (List.mem_of_getElem? (i := 24) rfl))) (mvT hZ (hw _ (List.mem_of_getElem? (i := 25) rfl))) (notFace_of_selects (args := #[]) (mvT hZ (hw _ (List.mem_of_getElem? (i := 27) rfl)))) (mvT hZ (hw _ (List.mem_of_getElem? (i := 27) rfl))) (mvT hZ (hw _ (List.mem_of_getElem? (i := 26) rfl))) (by decide) (backOf (W := 0) (rm5 l Z a0 hw [] b2 (11 : Int32) T2.heap n0 Z2 F2_capacity) hZ (hw _ (List.mem_of_getElem? (i := 28) rfl)) (hw _ (List.mem_of_getElem? (i := 2) rfl)) (by decide) (by decide)) q4a q4c (g := (mkF m 51 #[.val (.int u0), .val (.int u1), .val (.int u2), .val (.int (u0 &&& (2147483647 : Int32))), .val (.int (0 : Int32)), .val (.ref b2), .unset] [(.ref b2)])) rfl (by rw [hml]; rfl) (Steps.refl _) (argsL := []) (rest := []) (lenOf pd_0 rfl) rfl (by show 2 * 0 + _ ≤ _; exact Nat.le_of_eq rfl) (hb hby at_51) (fun _ _ => ⟨rfl, e3, (by decide : 1 + 0 ≤ _), (by decide : 8 + 0 ≤ _)⟩)
      dsimp only [Pt.U, Pt.locs, Pt.cells, Pt.slots] at X4 l4 y4 z4 st4 hQ4
      subst l4 y4 z4
      obtain ⟨rfl, N4q, e4⟩ := hQ4
      have N4 := Fr.app N3 N4q
      obtain ⟨cq5, kq5, q5a, q5b, q5c⟩ := isOf hZ e4 A2
      obtain ⟨_, _, ⟨T5, L5, k5, n5⟩, -, X5, ⟨Lc5, hQ5, l5, y5, z5⟩, st5⟩ := X4.virtualBack hx (y := (⟨"com/example/rehydra/rehydra/KeySlots", "worthKeeping", "()Z"⟩ : MethodName)) (z := (⟨"com/example/rehydra/rehydra/KeySlots", "worthKeeping", "()Z"⟩ : MethodName)) hown (mvT hZ (hw _ (List.mem_of_getElem? (i := 29) rfl))) (mvT hZ (hw _ (List.mem_of_getElem? (i := 30) rfl))) (notFace_of_selects (args := #[]) (mvT hZ (hw _ (List.mem_of_getElem? (i := 32) rfl)))) (mvT hZ (hw _ (List.mem_of_getElem? (i := 32) rfl))) (mvT hZ (hw _ (List.mem_of_getElem? (i := 31) rfl))) (by decide) (backOf (W := 0) (rm6 l Z a0 hw [] b2 T2.heap n0 Z2 F2_capacity F2_loadFactor F2_large) hZ (hw _ (List.mem_of_getElem? (i := 33) rfl)) (hw _ (List.mem_of_getElem? (i := 2) rfl)) (by decide) (by decide)) q5a q5c (g := (mkF m 63 #[.val (.int u0), .val (.int u1), .val (.int u2), .val (.int (u0 &&& (2147483647 : Int32))), .val (.int (0 : Int32)), .val (.ref b2), .unset] [(.ref b2)])) rfl (by rw [hml]; rfl) (Steps.refl _) (argsL := []) (rest := []) (lenOf pd_2 rfl) rfl (by show 2 * 0 + _ ≤ _; exact Nat.le_of_eq rfl) (hb hby at_63) (fun _ _ => ⟨rfl, e4, (by decide : 1 + 0 ≤ _), (by decide : 8 + 0 ≤ _)⟩)
      dsimp only [Pt.U, Pt.locs, Pt.cells, Pt.slots] at X5 l5 y5 z5 st5 hQ5
      subst l5 y5 z5
      obtain ⟨rfl, N5q, e5⟩ := hQ5
      have N5 := Fr.app N4 N5q
      obtain ⟨cq6, kq6, q6a, q6b, q6c⟩ := isOf hZ e5 A2
      obtain ⟨_, _, ⟨T6, L6, k6, n6⟩, -, X6, ⟨Lc6, hQ6, l6, y6, z6⟩, st6⟩ := X5.virtualBack hx (y := (⟨"com/example/rehydra/rehydra/KeySlots", "crowded", "()Z"⟩ : MethodName)) (z := (⟨"com/example/rehydra/rehydra/KeySlots", "crowded", "()Z"⟩ : MethodName)) hown (mvT hZ (hw _ (List.mem_of_getElem? (i := 36) rfl))) (mvT hZ (hw _ (List.mem_of_getElem? (i := 37) rfl))) (notFace_of_selects (args := #[]) (mvT hZ (hw _ (List.mem_of_getElem? (i := 39) rfl)))) (mvT hZ (hw _ (List.mem_of_getElem? (i := 39) rfl))) (mvT hZ (hw _ (List.mem_of_getElem? (i := 38) rfl))) (by decide) (backOf (W := 0) (rm7 l Z a0 hw [] b2 (cnt (u0 &&& (2147483647 : Int32))) T2.heap n0 Z2 F2_heads F2_count (cnt_le _)) hZ (hw _ (List.mem_of_getElem? (i := 40) rfl)) (hw _ (List.mem_of_getElem? (i := 2) rfl)) (by decide) (by decide)) q6a q6c (g := (mkF m 73 #[.val (.int u0), .val (.int u1), .val (.int u2), .val (.int (u0 &&& (2147483647 : Int32))), .val (.int (0 : Int32)), .val (.ref b2), .unset] [(.ref b2)])) rfl (by rw [hml]; rfl) (Steps.refl _) (argsL := []) (rest := []) (lenOf pd_2 rfl) rfl (by show 2 * 0 + _ ≤ _; exact Nat.le_of_eq rfl) (hb hby at_73) (fun _ _ => ⟨rfl, e5, (by decide : 1 + 0 ≤ _), (by decide : 8 + 0 ≤ _)⟩)
      dsimp only [Pt.U, Pt.locs, Pt.cells, Pt.slots] at X6 l6 y6 z6 st6 hQ6
      subst l6 y6 z6
      obtain ⟨rfl, N6q, e6⟩ := hQ6
      have N6 := Fr.app N5 N6q
      obtain ⟨cq7, kq7, q7a, q7b, q7c⟩ := isOf hZ e6 A2
      obtain ⟨_, _, ⟨T7, L7, k7, n7⟩, -, X7, ⟨Lc7, hQ7, l7, y7, z7⟩, st7⟩ := X6.virtualBack hx (y := (⟨"com/example/rehydra/rehydra/KeySlots", "walk", "(I)Lcom/example/rehydra/rehydra/KeySlots$Walk;"⟩ : MethodName)) (z := (⟨"com/example/rehydra/rehydra/KeySlots", "walk", "(I)Lcom/example/rehydra/rehydra/KeySlots$Walk;"⟩ : MethodName)) hown (mvT hZ (hw _ (List.mem_of_getElem? (i := 43) rfl))) (mvT hZ (hw _ (List.mem_of_getElem? (i := 44) rfl))) (notFace_of_selects (args := #[]) (mvT hZ (hw _ (List.mem_of_getElem? (i := 46) rfl)))) (mvT hZ (hw _ (List.mem_of_getElem? (i := 46) rfl))) (mvT hZ (hw _ (List.mem_of_getElem? (i := 45) rfl))) (by decide) (backOf (W := 0) (rm8 l Z a0 hw [] b2 u2 (cnt (u0 &&& (2147483647 : Int32))) T2.heap n0 Z2 F2_heads F2_count F2_large) hZ (hw _ (List.mem_of_getElem? (i := 47) rfl)) (hw _ (List.mem_of_getElem? (i := 2) rfl)) (by decide) (by decide)) q7a q7c (g := (mkF m 84 #[.val (.int u0), .val (.int u1), .val (.int u2), .val (.int (u0 &&& (2147483647 : Int32))), .val (.int (0 : Int32)), .val (.ref b2), .unset] [(.int u2), (.ref b2)])) rfl (by rw [hml]; rfl) (Steps.refl _) (argsL := [(.int u2)]) (rest := []) (lenOf pd_3 rfl) rfl (by show 2 * 0 + _ ≤ _; exact Nat.le_of_eq rfl) (hb hby at_84) (fun _ _ => ⟨rfl, e6, (by decide : 1 + 1 ≤ _), (by decide : 8 + 3 ≤ _)⟩)
      dsimp only [Pt.U, Pt.locs, Pt.cells, Pt.slots] at X7 l7 y7 z7 st7 hQ7
      subst l7 y7 z7
      obtain ⟨hv7, N7q, K7, A7, F7_keys, F7_sameHash, F7_largestReach⟩ := hQ7
      obtain ⟨b7, g7⟩ : ∃ z, z = T2.heap.size := ⟨_, rfl⟩
      rw [← g7] at hv7 A7 F7_keys F7_sameHash F7_largestReach
      subst hv7
      have g_b7 : n0 ≤ b7 := Nat.le_trans Z2 (Nat.le_of_eq g7.symm)
      have sz_b7 : h0.size ≤ b7 := Nat.le_trans KK2.1 (Nat.le_of_eq g7.symm)
      have N7 := Fr.app N6 N7q
      have Z7 : n0 ≤ T7.heap.size := Nat.le_trans Z2 K7.1
      have KK7 := KK2.trans K7 all0
      obtain ⟨cq8, kq8, q8a, q8b, q8c⟩ := isOf hZ rfl A7
      obtain ⟨_, _, ⟨T8, L8, k8, n8⟩, -, X8, ⟨Lc8, hQ8, l8, y8, z8⟩, st8⟩ := X7.virtualBack hx (y := (⟨"com/example/rehydra/rehydra/KeySlots$Walk", "keys", "()I"⟩ : MethodName)) (z := (⟨"com/example/rehydra/rehydra/KeySlots$Walk", "keys", "()I"⟩ : MethodName)) hown (mvT hZ (hw _ (List.mem_of_getElem? (i := 66) rfl))) (mvT hZ (hw _ (List.mem_of_getElem? (i := 67) rfl))) (notFace_of_selects (args := #[]) (mvT hZ (hw _ (List.mem_of_getElem? (i := 69) rfl)))) (mvT hZ (hw _ (List.mem_of_getElem? (i := 69) rfl))) (mvT hZ (hw _ (List.mem_of_getElem? (i := 68) rfl))) (by decide) (backOf (W := 0) (rm11 l Z a0 hw [] b7 (cnt (u0 &&& (2147483647 : Int32))) T7.heap n0 Z7 F7_keys) hZ (hw _ (List.mem_of_getElem? (i := 70) rfl)) (hw _ (List.mem_of_getElem? (i := 50) rfl)) (by decide) (by decide)) q8a q8c (g := (mkF m 91 #[.val (.int u0), .val (.int u1), .val (.int u2), .val (.int (u0 &&& (2147483647 : Int32))), .val (.int (0 : Int32)), .val (.ref b2), .val (.ref b7)] [(.ref b7)])) rfl (by rw [hml]; rfl) (Steps.refl _) (argsL := []) (rest := []) (lenOf pd_0 rfl) rfl (by show 2 * 0 + _ ≤ _; exact Nat.le_of_eq rfl) (hb hby at_91) (fun _ _ => ⟨rfl, rfl, (by decide : 2 + 0 ≤ _), (by decide : 11 + 0 ≤ _)⟩)
      dsimp only [Pt.U, Pt.locs, Pt.cells, Pt.slots] at X8 l8 y8 z8 st8 hQ8
      subst l8 y8 z8
      obtain ⟨rfl, N8q, e8⟩ := hQ8
      have N8 := Fr.app N7 N8q
      obtain ⟨cq9, kq9, q9a, q9b, q9c⟩ := isOf hZ e8 A7
      obtain ⟨_, _, ⟨T9, L9, k9, n9⟩, -, X9, ⟨Lc9, hQ9, l9, y9, z9⟩, st9⟩ := X8.virtualBack hx (y := (⟨"com/example/rehydra/rehydra/KeySlots$Walk", "sameHash", "()I"⟩ : MethodName)) (z := (⟨"com/example/rehydra/rehydra/KeySlots$Walk", "sameHash", "()I"⟩ : MethodName)) hown (mvT hZ (hw _ (List.mem_of_getElem? (i := 71) rfl))) (mvT hZ (hw _ (List.mem_of_getElem? (i := 72) rfl))) (notFace_of_selects (args := #[]) (mvT hZ (hw _ (List.mem_of_getElem? (i := 74) rfl)))) (mvT hZ (hw _ (List.mem_of_getElem? (i := 74) rfl))) (mvT hZ (hw _ (List.mem_of_getElem? (i := 73) rfl))) (by decide) (backOf (W := 0) (rm12 l Z a0 hw [] b7 (cnt (u0 &&& (2147483647 : Int32))) T7.heap n0 Z7 F7_sameHash) hZ (hw _ (List.mem_of_getElem? (i := 75) rfl)) (hw _ (List.mem_of_getElem? (i := 50) rfl)) (by decide) (by decide)) q9a q9c (g := (mkF m 101 #[.val (.int u0), .val (.int u1), .val (.int u2), .val (.int (u0 &&& (2147483647 : Int32))), .val (.int (0 : Int32)), .val (.ref b2), .val (.ref b7)] [(.ref b7)])) rfl (by rw [hml]; rfl) (Steps.refl _) (argsL := []) (rest := []) (lenOf pd_0 rfl) rfl (by show 2 * 0 + _ ≤ _; exact Nat.le_of_eq rfl) (hb hby at_101) (fun _ _ => ⟨rfl, e8, (by decide : 2 + 0 ≤ _), (by decide : 11 + 0 ≤ _)⟩)
      dsimp only [Pt.U, Pt.locs, Pt.cells, Pt.slots] at X9 l9 y9 z9 st9 hQ9
      subst l9 y9 z9
      obtain ⟨rfl, N9q, e9⟩ := hQ9
      have N9 := Fr.app N8 N9q
      obtain ⟨cq10, kq10, q10a, q10b, q10c⟩ := isOf hZ e9 A7
      obtain ⟨_, _, ⟨T10, L10, k10, n10⟩, -, X10, ⟨Lc10, hQ10, l10, y10, z10⟩, st10⟩ := X9.virtualBack hx (y := (⟨"com/example/rehydra/rehydra/KeySlots$Walk", "largestReach", "()I"⟩ : MethodName)) (z := (⟨"com/example/rehydra/rehydra/KeySlots$Walk", "largestReach", "()I"⟩ : MethodName)) hown (mvT hZ (hw _ (List.mem_of_getElem? (i := 76) rfl))) (mvT hZ (hw _ (List.mem_of_getElem? (i := 77) rfl))) (notFace_of_selects (args := #[]) (mvT hZ (hw _ (List.mem_of_getElem? (i := 79) rfl)))) (mvT hZ (hw _ (List.mem_of_getElem? (i := 79) rfl))) (mvT hZ (hw _ (List.mem_of_getElem? (i := 78) rfl))) (by decide) (backOf (W := 0) (rm13 l Z a0 hw [] b7 (1 : Int32) T7.heap n0 Z7 F7_largestReach) hZ (hw _ (List.mem_of_getElem? (i := 80) rfl)) (hw _ (List.mem_of_getElem? (i := 50) rfl)) (by decide) (by decide)) q10a q10c (g := (mkF m 111 #[.val (.int u0), .val (.int u1), .val (.int u2), .val (.int (u0 &&& (2147483647 : Int32))), .val (.int (0 : Int32)), .val (.ref b2), .val (.ref b7)] [(.ref b7)])) rfl (by rw [hml]; rfl) (Steps.refl _) (argsL := []) (rest := []) (lenOf pd_0 rfl) rfl (by show 2 * 0 + _ ≤ _; exact Nat.le_of_eq rfl) (hb hby at_111) (fun _ _ => ⟨rfl, e9, (by decide : 2 + 0 ≤ _), (by decide : 11 + 0 ≤ _)⟩)
      dsimp only [Pt.U, Pt.locs, Pt.cells, Pt.slots] at X10 l10 y10 z10 st10 hQ10
      subst l10 y10 z10
      obtain ⟨rfl, N10q, e10⟩ := hQ10
      have N10 := Fr.app N9 N10q
      obtain ⟨fs, hr, hrun, hended, hW, hsame⟩ := X10.leave (v := some (.int (1 : Int32))) (fun h => by rw [Bd.returns] at h; cases h)
      refine ⟨_, _, pre0 _ ?_, hrun, hended, _, _, rfl, ?_, ⟨_, rfl⟩, hW, hsame.mono (by decide) (by decide)⟩
      · show Steps p.tables e below (s₁.setTop (mkF m 0 #[.val (.int u0), .val (.int u1), .val (.int u2), .unset, .unset, .unset, .unset] [])) _
        refine XS.iloadN X0.here hx rfl (hb hby at_0) rfl ?_
        show Steps p.tables e below (s₁.setTop (mkF m 1 #[.val (.int u0), .val (.int u1), .val (.int u2), .unset, .unset, .unset, .unset] [(.int u1)])) _
        refine XS.iconst X0.here hx rfl (hb hby at_1) ?_
        show Steps p.tables e below (s₁.setTop (mkF m 2 #[.val (.int u0), .val (.int u1), .val (.int u2), .unset, .unset, .unset, .unset] [(.int (1 : Int32)), (.int u1)])) _
        refine XS.iand X0.here hx rfl (hb hby at_2) rfl ?_
        show Steps p.tables e below (s₁.setTop (mkF m 3 #[.val (.int u0), .val (.int u1), .val (.int u2), .unset, .unset, .unset, .unset] [(.int (u1 &&& (1 : Int32)))])) _
        refine XS.ifYes X0.here hx rfl (pc0 := 3) (pc' := 13) rfl (hb hby at_3) rfl ((if0 _ _).trans (teq hc3).1) (by decide) (by decide) ?_
        show Steps p.tables e below (s₁.setTop (mkF m 13 #[.val (.int u0), .val (.int u1), .val (.int u2), .unset, .unset, .unset, .unset] [])) _
        refine XS.iloadN X0.here hx rfl (hb hby at_13) rfl ?_
        show Steps p.tables e below (s₁.setTop (mkF m 14 #[.val (.int u0), .val (.int u1), .val (.int u2), .unset, .unset, .unset, .unset] [(.int u0)])) _
        refine st1 _ ?_
        show Steps p.tables e below (s₁.setTop (mkF m 16 #[.val (.int u0), .val (.int u1), .val (.int u2), .unset, .unset, .unset, .unset] [(.int (2147483647 : Int32)), (.int u0)])) _
        refine XS.iand X0.here hx rfl (hb hby at_16) rfl ?_
        show Steps p.tables e below (s₁.setTop (mkF m 17 #[.val (.int u0), .val (.int u1), .val (.int u2), .unset, .unset, .unset, .unset] [(.int (u0 &&& (2147483647 : Int32)))])) _
        refine XS.istoreN X0.here hx rfl (hb hby at_17) rfl (l' := #[.val (.int u0), .val (.int u1), .val (.int u2), .val (.int (u0 &&& (2147483647 : Int32))), .unset, .unset, .unset]) rfl ?_
        show Steps p.tables e below (s₁.setTop (mkF m 18 #[.val (.int u0), .val (.int u1), .val (.int u2), .val (.int (u0 &&& (2147483647 : Int32))), .unset, .unset, .unset] [])) _
        refine XS.iloadN X0.here hx rfl (hb hby at_18) rfl ?_
        show Steps p.tables e below (s₁.setTop (mkF m 19 #[.val (.int u0), .val (.int u1), .val (.int u2), .val (.int (u0 &&& (2147483647 : Int32))), .unset, .unset, .unset] [(.int (u0 &&& (2147483647 : Int32)))])) _
        refine XS.bipush X0.here hx rfl (hb hby at_19) ?_
        show Steps p.tables e below (s₁.setTop (mkF m 21 #[.val (.int u0), .val (.int u1), .val (.int u2), .val (.int (u0 &&& (2147483647 : Int32))), .unset, .unset, .unset] [(.int (8 : Int32)), (.int (u0 &&& (2147483647 : Int32)))])) _
        refine XS.icmpYes X0.here hx rfl (pc0 := 21) (pc' := 28) rfl (hb hby at_21) rfl (tlt hc21).2.2.1 (by decide) (by decide) ?_
        show Steps p.tables e below (s₁.setTop (mkF m 28 #[.val (.int u0), .val (.int u1), .val (.int u2), .val (.int (u0 &&& (2147483647 : Int32))), .unset, .unset, .unset] [])) _
        refine XS.iconst X0.here hx rfl (hb hby at_28) ?_
        show Steps p.tables e below (s₁.setTop (mkF m 29 #[.val (.int u0), .val (.int u1), .val (.int u2), .val (.int (u0 &&& (2147483647 : Int32))), .unset, .unset, .unset] [(.int (0 : Int32))])) _
        refine XS.istore X0.here hx rfl (hb hby at_29) rfl (l' := #[.val (.int u0), .val (.int u1), .val (.int u2), .val (.int (u0 &&& (2147483647 : Int32))), .val (.int (0 : Int32)), .unset, .unset]) rfl ?_
        show Steps p.tables e below (s₁.setTop (mkF m 31 #[.val (.int u0), .val (.int u1), .val (.int u2), .val (.int (u0 &&& (2147483647 : Int32))), .val (.int (0 : Int32)), .unset, .unset] [])) _
        refine XS.iloadN X0.here hx rfl (hb hby at_31) rfl ?_
        show Steps p.tables e below (s₁.setTop (mkF m 32 #[.val (.int u0), .val (.int u1), .val (.int u2), .val (.int (u0 &&& (2147483647 : Int32))), .val (.int (0 : Int32)), .unset, .unset] [(.int (u0 &&& (2147483647 : Int32)))])) _
        refine st2 _ ?_
        show Steps p.tables e below (T2.setTop (mkF m 35 #[.val (.int u0), .val (.int u1), .val (.int u2), .val (.int (u0 &&& (2147483647 : Int32))), .val (.int (0 : Int32)), .unset, .unset] [(.ref b2)])) _
        refine XS.astore X2.here hx rfl (hb hby at_35) rfl rfl (l' := #[.val (.int u0), .val (.int u1), .val (.int u2), .val (.int (u0 &&& (2147483647 : Int32))), .val (.int (0 : Int32)), .val (.ref b2), .unset]) rfl ?_
        show Steps p.tables e below (T2.setTop (mkF m 37 #[.val (.int u0), .val (.int u1), .val (.int u2), .val (.int (u0 &&& (2147483647 : Int32))), .val (.int (0 : Int32)), .val (.ref b2), .unset] [])) _
        refine XS.aload X2.here hx rfl (hb hby at_37) rfl rfl ?_
        show Steps p.tables e below (T2.setTop (mkF m 39 #[.val (.int u0), .val (.int u1), .val (.int u2), .val (.int (u0 &&& (2147483647 : Int32))), .val (.int (0 : Int32)), .val (.ref b2), .unset] [(.ref b2)])) _
        refine st3.trans ?_
        show Steps p.tables e below (T3.setTop (mkF m 42 #[.val (.int u0), .val (.int u1), .val (.int u2), .val (.int (u0 &&& (2147483647 : Int32))), .val (.int (0 : Int32)), .val (.ref b2), .unset] [(.int (cnt (u0 &&& (2147483647 : Int32))))])) _
        refine XS.iload X3.here hx rfl (hb hby at_42) rfl ?_
        show Steps p.tables e below (T3.setTop (mkF m 44 #[.val (.int u0), .val (.int u1), .val (.int u2), .val (.int (u0 &&& (2147483647 : Int32))), .val (.int (0 : Int32)), .val (.ref b2), .unset] [(.int (0 : Int32)), (.int (cnt (u0 &&& (2147483647 : Int32))))])) _
        refine XS.icmpYes X3.here hx rfl (pc0 := 44) (pc' := 49) rfl (hb hby at_44) rfl (teq (by unfold cnt; simp [hc21])).1 (by decide) (by decide) ?_
        show Steps p.tables e below (T3.setTop (mkF m 49 #[.val (.int u0), .val (.int u1), .val (.int u2), .val (.int (u0 &&& (2147483647 : Int32))), .val (.int (0 : Int32)), .val (.ref b2), .unset] [])) _
        refine XS.aload X3.here hx rfl (hb hby at_49) rfl rfl ?_
        show Steps p.tables e below (T3.setTop (mkF m 51 #[.val (.int u0), .val (.int u1), .val (.int u2), .val (.int (u0 &&& (2147483647 : Int32))), .val (.int (0 : Int32)), .val (.ref b2), .unset] [(.ref b2)])) _
        refine st4.trans ?_
        show Steps p.tables e below (T4.setTop (mkF m 54 #[.val (.int u0), .val (.int u1), .val (.int u2), .val (.int (u0 &&& (2147483647 : Int32))), .val (.int (0 : Int32)), .val (.ref b2), .unset] [(.int (11 : Int32))])) _
        refine XS.bipush X4.here hx rfl (hb hby at_54) ?_
        show Steps p.tables e below (T4.setTop (mkF m 56 #[.val (.int u0), .val (.int u1), .val (.int u2), .val (.int (u0 &&& (2147483647 : Int32))), .val (.int (0 : Int32)), .val (.ref b2), .unset] [(.int (11 : Int32)), (.int (11 : Int32))])) _
        refine XS.icmpYes X4.here hx rfl (pc0 := 56) (pc' := 61) rfl (hb hby at_56) rfl (teq (by decide)).1 (by decide) (by decide) ?_
        show Steps p.tables e below (T4.setTop (mkF m 61 #[.val (.int u0), .val (.int u1), .val (.int u2), .val (.int (u0 &&& (2147483647 : Int32))), .val (.int (0 : Int32)), .val (.ref b2), .unset] [])) _
        refine XS.aload X4.here hx rfl (hb hby at_61) rfl rfl ?_
        show Steps p.tables e below (T4.setTop (mkF m 63 #[.val (.int u0), .val (.int u1), .val (.int u2), .val (.int (u0 &&& (2147483647 : Int32))), .val (.int (0 : Int32)), .val (.ref b2), .unset] [(.ref b2)])) _
        refine st5.trans ?_
        show Steps p.tables e below (T5.setTop (mkF m 66 #[.val (.int u0), .val (.int u1), .val (.int u2), .val (.int (u0 &&& (2147483647 : Int32))), .val (.int (0 : Int32)), .val (.ref b2), .unset] [(.int (0 : Int32))])) _
        refine XS.ifYes X5.here hx rfl (pc0 := 66) (pc' := 71) rfl (hb hby at_66) rfl ((if0 _ _).trans (teq (by decide)).1) (by decide) (by decide) ?_
        show Steps p.tables e below (T5.setTop (mkF m 71 #[.val (.int u0), .val (.int u1), .val (.int u2), .val (.int (u0 &&& (2147483647 : Int32))), .val (.int (0 : Int32)), .val (.ref b2), .unset] [])) _
        refine XS.aload X5.here hx rfl (hb hby at_71) rfl rfl ?_
        show Steps p.tables e below (T5.setTop (mkF m 73 #[.val (.int u0), .val (.int u1), .val (.int u2), .val (.int (u0 &&& (2147483647 : Int32))), .val (.int (0 : Int32)), .val (.ref b2), .unset] [(.ref b2)])) _
        refine st6.trans ?_
        show Steps p.tables e below (T6.setTop (mkF m 76 #[.val (.int u0), .val (.int u1), .val (.int u2), .val (.int (u0 &&& (2147483647 : Int32))), .val (.int (0 : Int32)), .val (.ref b2), .unset] [(.int (0 : Int32))])) _
        refine XS.ifYes X6.here hx rfl (pc0 := 76) (pc' := 81) rfl (hb hby at_76) rfl ((if0 _ _).trans (teq (by decide)).1) (by decide) (by decide) ?_
        show Steps p.tables e below (T6.setTop (mkF m 81 #[.val (.int u0), .val (.int u1), .val (.int u2), .val (.int (u0 &&& (2147483647 : Int32))), .val (.int (0 : Int32)), .val (.ref b2), .unset] [])) _
        refine XS.aload X6.here hx rfl (hb hby at_81) rfl rfl ?_
        show Steps p.tables e below (T6.setTop (mkF m 83 #[.val (.int u0), .val (.int u1), .val (.int u2), .val (.int (u0 &&& (2147483647 : Int32))), .val (.int (0 : Int32)), .val (.ref b2), .unset] [(.ref b2)])) _
        refine XS.iloadN X6.here hx rfl (hb hby at_83) rfl ?_
        show Steps p.tables e below (T6.setTop (mkF m 84 #[.val (.int u0), .val (.int u1), .val (.int u2), .val (.int (u0 &&& (2147483647 : Int32))), .val (.int (0 : Int32)), .val (.ref b2), .unset] [(.int u2), (.ref b2)])) _
        refine st7.trans ?_
        show Steps p.tables e below (T7.setTop (mkF m 87 #[.val (.int u0), .val (.int u1), .val (.int u2), .val (.int (u0 &&& (2147483647 : Int32))), .val (.int (0 : Int32)), .val (.ref b2), .unset] [(.ref b7)])) _
        refine XS.astore X7.here hx rfl (hb hby at_87) rfl rfl (l' := #[.val (.int u0), .val (.int u1), .val (.int u2), .val (.int (u0 &&& (2147483647 : Int32))), .val (.int (0 : Int32)), .val (.ref b2), .val (.ref b7)]) rfl ?_
        show Steps p.tables e below (T7.setTop (mkF m 89 #[.val (.int u0), .val (.int u1), .val (.int u2), .val (.int (u0 &&& (2147483647 : Int32))), .val (.int (0 : Int32)), .val (.ref b2), .val (.ref b7)] [])) _
        refine XS.aload X7.here hx rfl (hb hby at_89) rfl rfl ?_
        show Steps p.tables e below (T7.setTop (mkF m 91 #[.val (.int u0), .val (.int u1), .val (.int u2), .val (.int (u0 &&& (2147483647 : Int32))), .val (.int (0 : Int32)), .val (.ref b2), .val (.ref b7)] [(.ref b7)])) _
        refine st8.trans ?_
        show Steps p.tables e below (T8.setTop (mkF m 94 #[.val (.int u0), .val (.int u1), .val (.int u2), .val (.int (u0 &&& (2147483647 : Int32))), .val (.int (0 : Int32)), .val (.ref b2), .val (.ref b7)] [(.int (cnt (u0 &&& (2147483647 : Int32))))])) _
        refine XS.iload X8.here hx rfl (hb hby at_94) rfl ?_
        show Steps p.tables e below (T8.setTop (mkF m 96 #[.val (.int u0), .val (.int u1), .val (.int u2), .val (.int (u0 &&& (2147483647 : Int32))), .val (.int (0 : Int32)), .val (.ref b2), .val (.ref b7)] [(.int (0 : Int32)), (.int (cnt (u0 &&& (2147483647 : Int32))))])) _
        refine XS.icmpNo X8.here hx rfl (hb hby at_96) rfl (teq (by unfold cnt; simp [hc21])).2 ?_
        show Steps p.tables e below (T8.setTop (mkF m 99 #[.val (.int u0), .val (.int u1), .val (.int u2), .val (.int (u0 &&& (2147483647 : Int32))), .val (.int (0 : Int32)), .val (.ref b2), .val (.ref b7)] [])) _
        refine XS.aload X8.here hx rfl (hb hby at_99) rfl rfl ?_
        show Steps p.tables e below (T8.setTop (mkF m 101 #[.val (.int u0), .val (.int u1), .val (.int u2), .val (.int (u0 &&& (2147483647 : Int32))), .val (.int (0 : Int32)), .val (.ref b2), .val (.ref b7)] [(.ref b7)])) _
        refine st9.trans ?_
        show Steps p.tables e below (T9.setTop (mkF m 104 #[.val (.int u0), .val (.int u1), .val (.int u2), .val (.int (u0 &&& (2147483647 : Int32))), .val (.int (0 : Int32)), .val (.ref b2), .val (.ref b7)] [(.int (cnt (u0 &&& (2147483647 : Int32))))])) _
        refine XS.iload X9.here hx rfl (hb hby at_104) rfl ?_
        show Steps p.tables e below (T9.setTop (mkF m 106 #[.val (.int u0), .val (.int u1), .val (.int u2), .val (.int (u0 &&& (2147483647 : Int32))), .val (.int (0 : Int32)), .val (.ref b2), .val (.ref b7)] [(.int (0 : Int32)), (.int (cnt (u0 &&& (2147483647 : Int32))))])) _
        refine XS.icmpNo X9.here hx rfl (hb hby at_106) rfl (teq (by unfold cnt; simp [hc21])).2 ?_
        show Steps p.tables e below (T9.setTop (mkF m 109 #[.val (.int u0), .val (.int u1), .val (.int u2), .val (.int (u0 &&& (2147483647 : Int32))), .val (.int (0 : Int32)), .val (.ref b2), .val (.ref b7)] [])) _
        refine XS.aload X9.here hx rfl (hb hby at_109) rfl rfl ?_
        show Steps p.tables e below (T9.setTop (mkF m 111 #[.val (.int u0), .val (.int u1), .val (.int u2), .val (.int (u0 &&& (2147483647 : Int32))), .val (.int (0 : Int32)), .val (.ref b2), .val (.ref b7)] [(.ref b7)])) _
        refine st10.trans ?_
        show Steps p.tables e below (T10.setTop (mkF m 114 #[.val (.int u0), .val (.int u1), .val (.int u2), .val (.int (u0 &&& (2147483647 : Int32))), .val (.int (0 : Int32)), .val (.ref b2), .val (.ref b7)] [(.int (1 : Int32))])) _
        refine XS.iconst X10.here hx rfl (hb hby at_114) ?_
        show Steps p.tables e below (T10.setTop (mkF m 115 #[.val (.int u0), .val (.int u1), .val (.int u2), .val (.int (u0 &&& (2147483647 : Int32))), .val (.int (0 : Int32)), .val (.ref b2), .val (.ref b7)] [(.int (1 : Int32)), (.int (1 : Int32))])) _
        refine XS.icmpNo X10.here hx rfl (hb hby at_115) rfl (teq (by decide)).2 ?_
        show Steps p.tables e below (T10.setTop (mkF m 118 #[.val (.int u0), .val (.int u1), .val (.int u2), .val (.int (u0 &&& (2147483647 : Int32))), .val (.int (0 : Int32)), .val (.ref b2), .val (.ref b7)] [])) _
        refine XS.iconst X10.here hx rfl (hb hby at_118) ?_
        show Steps p.tables e below (T10.setTop (mkF m 119 #[.val (.int u0), .val (.int u1), .val (.int u2), .val (.int (u0 &&& (2147483647 : Int32))), .val (.int (0 : Int32)), .val (.ref b2), .val (.ref b7)] [(.int (1 : Int32))])) _
        refine XS.goto X10.here hx rfl (pc0 := 119) (pc' := 123) rfl (hb hby at_119) (by decide) (by decide) ?_
        show Steps p.tables e below (T10.setTop (mkF m 123 #[.val (.int u0), .val (.int u1), .val (.int u2), .val (.int (u0 &&& (2147483647 : Int32))), .val (.int (0 : Int32)), .val (.ref b2), .val (.ref b7)] [(.int (1 : Int32))])) _
        exact retN X10 hx (t := .boolean) Bd.returns (by simp) (hb hby at_123) hr
      · show Q0 Z u0 u1 u2 h0 n0 _ T10.heap _
        rw [e10]
        exact ⟨rfl, N10⟩
    · obtain ⟨_, _, ⟨T11, L11, k11, n11⟩, -, X11, ⟨Lc11, hQ11, l11, y11, z11⟩, st11⟩ := Jvm.LawKit.callS X0 hx (y := (⟨"com/example/rehydra/rehydra/KeySlots", "builtWithNoValues", "(I)Lcom/example/rehydra/rehydra/KeySlots;"⟩ : MethodName)) hown (mvT hZ (hw _ (List.mem_of_getElem? (i := 0) rfl))) (mvT hZ (hw _ (List.mem_of_getElem? (i := 1) rfl))) (mvT hZ (hw _ (List.mem_of_getElem? (i := 2) rfl))) (mvT hZ (hw _ (List.mem_of_getElem? (i := 3) rfl))) (by decide) (backOf (W := 0) (rm1 l Z a0 hw [] (u0 &&& (2147483647 : Int32)) h0 n0 Z0 ) hZ (hw _ (List.mem_of_getElem? (i := 3) rfl)) (hw _ (List.mem_of_getElem? (i := 2) rfl)) (by decide) (by decide)) (g := (mkF m 32 #[.val (.int u0), .val (.int u1), .val (.int u2), .val (.int (u0 &&& (2147483647 : Int32))), .val (.int (u0 &&& (2147483647 : Int32))), .unset, .unset] [(.int (u0 &&& (2147483647 : Int32)))])) rfl (by rw [hml]; rfl) (argsL := [(.int (u0 &&& (2147483647 : Int32)))]) (rest := []) (lenOf pd_4 rfl) rfl (by show 2 * 0 + _ ≤ _; exact Nat.le_of_eq rfl) (hb hby at_32) (fun _ _ => ⟨rfl, e0, (by decide : 0 + 1 ≤ _), (by decide : 0 + 8 ≤ _)⟩)
      dsimp only [Pt.U, Pt.locs, Pt.cells, Pt.slots] at X11 l11 y11 z11 st11 hQ11
      subst l11 y11 z11
      obtain ⟨hv11, N11q, K11, A11, F11_count, F11_capacity, F11_loadFactor, F11_large, F11_heads⟩ := hQ11
      obtain ⟨b11, g11⟩ : ∃ z, z = h0.size := ⟨_, rfl⟩
      rw [← g11] at hv11 A11 F11_count F11_capacity F11_loadFactor F11_large F11_heads
      subst hv11
      have g_b11 : n0 ≤ b11 := Nat.le_trans Z0 (Nat.le_of_eq g11.symm)
      have sz_b11 : h0.size ≤ b11 := Nat.le_trans (Keep.refl h0 []).1 (Nat.le_of_eq g11.symm)
      have N11 := Fr.app N0 N11q
      have Z11 : n0 ≤ T11.heap.size := Nat.le_trans Z0 K11.1
      have KK11 := (Keep.refl h0 []).trans K11 all0
      obtain ⟨cq12, kq12, q12a, q12b, q12c⟩ := isOf hZ rfl A11
      obtain ⟨_, _, ⟨T12, L12, k12, n12⟩, -, X12, ⟨Lc12, hQ12, l12, y12, z12⟩, st12⟩ := X11.virtualBack hx (y := (⟨"com/example/rehydra/rehydra/KeySlots", "count", "()I"⟩ : MethodName)) (z := (⟨"com/example/rehydra/rehydra/KeySlots", "count", "()I"⟩ : MethodName)) hown (mvT hZ (hw _ (List.mem_of_getElem? (i := 19) rfl))) (mvT hZ (hw _ (List.mem_of_getElem? (i := 20) rfl))) (notFace_of_selects (args := #[]) (mvT hZ (hw _ (List.mem_of_getElem? (i := 22) rfl)))) (mvT hZ (hw _ (List.mem_of_getElem? (i := 22) rfl))) (mvT hZ (hw _ (List.mem_of_getElem? (i := 21) rfl))) (by decide) (backOf (W := 0) (rm4 l Z a0 hw [] b11 (cnt (u0 &&& (2147483647 : Int32))) T11.heap n0 Z11 F11_count) hZ (hw _ (List.mem_of_getElem? (i := 23) rfl)) (hw _ (List.mem_of_getElem? (i := 2) rfl)) (by decide) (by decide)) q12a q12c (g := (mkF m 39 #[.val (.int u0), .val (.int u1), .val (.int u2), .val (.int (u0 &&& (2147483647 : Int32))), .val (.int (u0 &&& (2147483647 : Int32))), .val (.ref b11), .unset] [(.ref b11)])) rfl (by rw [hml]; rfl) (Steps.refl _) (argsL := []) (rest := []) (lenOf pd_0 rfl) rfl (by show 2 * 0 + _ ≤ _; exact Nat.le_of_eq rfl) (hb hby at_39) (fun _ _ => ⟨rfl, rfl, (by decide : 1 + 0 ≤ _), (by decide : 8 + 0 ≤ _)⟩)
      dsimp only [Pt.U, Pt.locs, Pt.cells, Pt.slots] at X12 l12 y12 z12 st12 hQ12
      subst l12 y12 z12
      obtain ⟨rfl, N12q, e12⟩ := hQ12
      have N12 := Fr.app N11 N12q
      obtain ⟨cq13, kq13, q13a, q13b, q13c⟩ := isOf hZ e12 A11
      obtain ⟨_, _, ⟨T13, L13, k13, n13⟩, -, X13, ⟨Lc13, hQ13, l13, y13, z13⟩, st13⟩ := X12.virtualBack hx (y := (⟨"com/example/rehydra/rehydra/KeySlots", "capacity", "()I"⟩ : MethodName)) (z := (⟨"com/example/rehydra/rehydra/KeySlots", "capacity", "()I"⟩ : MethodName)) hown (mvT hZ (hw _ (List.mem_of_getElem? (i := 24) rfl))) (mvT hZ (hw _ (List.mem_of_getElem? (i := 25) rfl))) (notFace_of_selects (args := #[]) (mvT hZ (hw _ (List.mem_of_getElem? (i := 27) rfl)))) (mvT hZ (hw _ (List.mem_of_getElem? (i := 27) rfl))) (mvT hZ (hw _ (List.mem_of_getElem? (i := 26) rfl))) (by decide) (backOf (W := 0) (rm5 l Z a0 hw [] b11 (11 : Int32) T11.heap n0 Z11 F11_capacity) hZ (hw _ (List.mem_of_getElem? (i := 28) rfl)) (hw _ (List.mem_of_getElem? (i := 2) rfl)) (by decide) (by decide)) q13a q13c (g := (mkF m 51 #[.val (.int u0), .val (.int u1), .val (.int u2), .val (.int (u0 &&& (2147483647 : Int32))), .val (.int (u0 &&& (2147483647 : Int32))), .val (.ref b11), .unset] [(.ref b11)])) rfl (by rw [hml]; rfl) (Steps.refl _) (argsL := []) (rest := []) (lenOf pd_0 rfl) rfl (by show 2 * 0 + _ ≤ _; exact Nat.le_of_eq rfl) (hb hby at_51) (fun _ _ => ⟨rfl, e12, (by decide : 1 + 0 ≤ _), (by decide : 8 + 0 ≤ _)⟩)
      dsimp only [Pt.U, Pt.locs, Pt.cells, Pt.slots] at X13 l13 y13 z13 st13 hQ13
      subst l13 y13 z13
      obtain ⟨rfl, N13q, e13⟩ := hQ13
      have N13 := Fr.app N12 N13q
      obtain ⟨cq14, kq14, q14a, q14b, q14c⟩ := isOf hZ e13 A11
      obtain ⟨_, _, ⟨T14, L14, k14, n14⟩, -, X14, ⟨Lc14, hQ14, l14, y14, z14⟩, st14⟩ := X13.virtualBack hx (y := (⟨"com/example/rehydra/rehydra/KeySlots", "worthKeeping", "()Z"⟩ : MethodName)) (z := (⟨"com/example/rehydra/rehydra/KeySlots", "worthKeeping", "()Z"⟩ : MethodName)) hown (mvT hZ (hw _ (List.mem_of_getElem? (i := 29) rfl))) (mvT hZ (hw _ (List.mem_of_getElem? (i := 30) rfl))) (notFace_of_selects (args := #[]) (mvT hZ (hw _ (List.mem_of_getElem? (i := 32) rfl)))) (mvT hZ (hw _ (List.mem_of_getElem? (i := 32) rfl))) (mvT hZ (hw _ (List.mem_of_getElem? (i := 31) rfl))) (by decide) (backOf (W := 0) (rm6 l Z a0 hw [] b11 T11.heap n0 Z11 F11_capacity F11_loadFactor F11_large) hZ (hw _ (List.mem_of_getElem? (i := 33) rfl)) (hw _ (List.mem_of_getElem? (i := 2) rfl)) (by decide) (by decide)) q14a q14c (g := (mkF m 63 #[.val (.int u0), .val (.int u1), .val (.int u2), .val (.int (u0 &&& (2147483647 : Int32))), .val (.int (u0 &&& (2147483647 : Int32))), .val (.ref b11), .unset] [(.ref b11)])) rfl (by rw [hml]; rfl) (Steps.refl _) (argsL := []) (rest := []) (lenOf pd_2 rfl) rfl (by show 2 * 0 + _ ≤ _; exact Nat.le_of_eq rfl) (hb hby at_63) (fun _ _ => ⟨rfl, e13, (by decide : 1 + 0 ≤ _), (by decide : 8 + 0 ≤ _)⟩)
      dsimp only [Pt.U, Pt.locs, Pt.cells, Pt.slots] at X14 l14 y14 z14 st14 hQ14
      subst l14 y14 z14
      obtain ⟨rfl, N14q, e14⟩ := hQ14
      have N14 := Fr.app N13 N14q
      obtain ⟨cq15, kq15, q15a, q15b, q15c⟩ := isOf hZ e14 A11
      obtain ⟨_, _, ⟨T15, L15, k15, n15⟩, -, X15, ⟨Lc15, hQ15, l15, y15, z15⟩, st15⟩ := X14.virtualBack hx (y := (⟨"com/example/rehydra/rehydra/KeySlots", "crowded", "()Z"⟩ : MethodName)) (z := (⟨"com/example/rehydra/rehydra/KeySlots", "crowded", "()Z"⟩ : MethodName)) hown (mvT hZ (hw _ (List.mem_of_getElem? (i := 36) rfl))) (mvT hZ (hw _ (List.mem_of_getElem? (i := 37) rfl))) (notFace_of_selects (args := #[]) (mvT hZ (hw _ (List.mem_of_getElem? (i := 39) rfl)))) (mvT hZ (hw _ (List.mem_of_getElem? (i := 39) rfl))) (mvT hZ (hw _ (List.mem_of_getElem? (i := 38) rfl))) (by decide) (backOf (W := 0) (rm7 l Z a0 hw [] b11 (cnt (u0 &&& (2147483647 : Int32))) T11.heap n0 Z11 F11_heads F11_count (cnt_le _)) hZ (hw _ (List.mem_of_getElem? (i := 40) rfl)) (hw _ (List.mem_of_getElem? (i := 2) rfl)) (by decide) (by decide)) q15a q15c (g := (mkF m 73 #[.val (.int u0), .val (.int u1), .val (.int u2), .val (.int (u0 &&& (2147483647 : Int32))), .val (.int (u0 &&& (2147483647 : Int32))), .val (.ref b11), .unset] [(.ref b11)])) rfl (by rw [hml]; rfl) (Steps.refl _) (argsL := []) (rest := []) (lenOf pd_2 rfl) rfl (by show 2 * 0 + _ ≤ _; exact Nat.le_of_eq rfl) (hb hby at_73) (fun _ _ => ⟨rfl, e14, (by decide : 1 + 0 ≤ _), (by decide : 8 + 0 ≤ _)⟩)
      dsimp only [Pt.U, Pt.locs, Pt.cells, Pt.slots] at X15 l15 y15 z15 st15 hQ15
      subst l15 y15 z15
      obtain ⟨rfl, N15q, e15⟩ := hQ15
      have N15 := Fr.app N14 N15q
      obtain ⟨cq16, kq16, q16a, q16b, q16c⟩ := isOf hZ e15 A11
      obtain ⟨_, _, ⟨T16, L16, k16, n16⟩, -, X16, ⟨Lc16, hQ16, l16, y16, z16⟩, st16⟩ := X15.virtualBack hx (y := (⟨"com/example/rehydra/rehydra/KeySlots", "walk", "(I)Lcom/example/rehydra/rehydra/KeySlots$Walk;"⟩ : MethodName)) (z := (⟨"com/example/rehydra/rehydra/KeySlots", "walk", "(I)Lcom/example/rehydra/rehydra/KeySlots$Walk;"⟩ : MethodName)) hown (mvT hZ (hw _ (List.mem_of_getElem? (i := 43) rfl))) (mvT hZ (hw _ (List.mem_of_getElem? (i := 44) rfl))) (notFace_of_selects (args := #[]) (mvT hZ (hw _ (List.mem_of_getElem? (i := 46) rfl)))) (mvT hZ (hw _ (List.mem_of_getElem? (i := 46) rfl))) (mvT hZ (hw _ (List.mem_of_getElem? (i := 45) rfl))) (by decide) (backOf (W := 0) (rm8 l Z a0 hw [] b11 u2 (cnt (u0 &&& (2147483647 : Int32))) T11.heap n0 Z11 F11_heads F11_count F11_large) hZ (hw _ (List.mem_of_getElem? (i := 47) rfl)) (hw _ (List.mem_of_getElem? (i := 2) rfl)) (by decide) (by decide)) q16a q16c (g := (mkF m 84 #[.val (.int u0), .val (.int u1), .val (.int u2), .val (.int (u0 &&& (2147483647 : Int32))), .val (.int (u0 &&& (2147483647 : Int32))), .val (.ref b11), .unset] [(.int u2), (.ref b11)])) rfl (by rw [hml]; rfl) (Steps.refl _) (argsL := [(.int u2)]) (rest := []) (lenOf pd_3 rfl) rfl (by show 2 * 0 + _ ≤ _; exact Nat.le_of_eq rfl) (hb hby at_84) (fun _ _ => ⟨rfl, e15, (by decide : 1 + 1 ≤ _), (by decide : 8 + 3 ≤ _)⟩)
      dsimp only [Pt.U, Pt.locs, Pt.cells, Pt.slots] at X16 l16 y16 z16 st16 hQ16
      subst l16 y16 z16
      obtain ⟨hv16, N16q, K16, A16, F16_keys, F16_sameHash, F16_largestReach⟩ := hQ16
      obtain ⟨b16, g16⟩ : ∃ z, z = T11.heap.size := ⟨_, rfl⟩
      rw [← g16] at hv16 A16 F16_keys F16_sameHash F16_largestReach
      subst hv16
      have g_b16 : n0 ≤ b16 := Nat.le_trans Z11 (Nat.le_of_eq g16.symm)
      have sz_b16 : h0.size ≤ b16 := Nat.le_trans KK11.1 (Nat.le_of_eq g16.symm)
      have N16 := Fr.app N15 N16q
      have Z16 : n0 ≤ T16.heap.size := Nat.le_trans Z11 K16.1
      have KK16 := KK11.trans K16 all0
      obtain ⟨cq17, kq17, q17a, q17b, q17c⟩ := isOf hZ rfl A16
      obtain ⟨_, _, ⟨T17, L17, k17, n17⟩, -, X17, ⟨Lc17, hQ17, l17, y17, z17⟩, st17⟩ := X16.virtualBack hx (y := (⟨"com/example/rehydra/rehydra/KeySlots$Walk", "keys", "()I"⟩ : MethodName)) (z := (⟨"com/example/rehydra/rehydra/KeySlots$Walk", "keys", "()I"⟩ : MethodName)) hown (mvT hZ (hw _ (List.mem_of_getElem? (i := 66) rfl))) (mvT hZ (hw _ (List.mem_of_getElem? (i := 67) rfl))) (notFace_of_selects (args := #[]) (mvT hZ (hw _ (List.mem_of_getElem? (i := 69) rfl)))) (mvT hZ (hw _ (List.mem_of_getElem? (i := 69) rfl))) (mvT hZ (hw _ (List.mem_of_getElem? (i := 68) rfl))) (by decide) (backOf (W := 0) (rm11 l Z a0 hw [] b16 (cnt (u0 &&& (2147483647 : Int32))) T16.heap n0 Z16 F16_keys) hZ (hw _ (List.mem_of_getElem? (i := 70) rfl)) (hw _ (List.mem_of_getElem? (i := 50) rfl)) (by decide) (by decide)) q17a q17c (g := (mkF m 91 #[.val (.int u0), .val (.int u1), .val (.int u2), .val (.int (u0 &&& (2147483647 : Int32))), .val (.int (u0 &&& (2147483647 : Int32))), .val (.ref b11), .val (.ref b16)] [(.ref b16)])) rfl (by rw [hml]; rfl) (Steps.refl _) (argsL := []) (rest := []) (lenOf pd_0 rfl) rfl (by show 2 * 0 + _ ≤ _; exact Nat.le_of_eq rfl) (hb hby at_91) (fun _ _ => ⟨rfl, rfl, (by decide : 2 + 0 ≤ _), (by decide : 11 + 0 ≤ _)⟩)
      dsimp only [Pt.U, Pt.locs, Pt.cells, Pt.slots] at X17 l17 y17 z17 st17 hQ17
      subst l17 y17 z17
      obtain ⟨rfl, N17q, e17⟩ := hQ17
      have N17 := Fr.app N16 N17q
      obtain ⟨cq18, kq18, q18a, q18b, q18c⟩ := isOf hZ e17 A16
      obtain ⟨_, _, ⟨T18, L18, k18, n18⟩, -, X18, ⟨Lc18, hQ18, l18, y18, z18⟩, st18⟩ := X17.virtualBack hx (y := (⟨"com/example/rehydra/rehydra/KeySlots$Walk", "sameHash", "()I"⟩ : MethodName)) (z := (⟨"com/example/rehydra/rehydra/KeySlots$Walk", "sameHash", "()I"⟩ : MethodName)) hown (mvT hZ (hw _ (List.mem_of_getElem? (i := 71) rfl))) (mvT hZ (hw _ (List.mem_of_getElem? (i := 72) rfl))) (notFace_of_selects (args := #[]) (mvT hZ (hw _ (List.mem_of_getElem? (i := 74) rfl)))) (mvT hZ (hw _ (List.mem_of_getElem? (i := 74) rfl))) (mvT hZ (hw _ (List.mem_of_getElem? (i := 73) rfl))) (by decide) (backOf (W := 0) (rm12 l Z a0 hw [] b16 (cnt (u0 &&& (2147483647 : Int32))) T16.heap n0 Z16 F16_sameHash) hZ (hw _ (List.mem_of_getElem? (i := 75) rfl)) (hw _ (List.mem_of_getElem? (i := 50) rfl)) (by decide) (by decide)) q18a q18c (g := (mkF m 101 #[.val (.int u0), .val (.int u1), .val (.int u2), .val (.int (u0 &&& (2147483647 : Int32))), .val (.int (u0 &&& (2147483647 : Int32))), .val (.ref b11), .val (.ref b16)] [(.ref b16)])) rfl (by rw [hml]; rfl) (Steps.refl _) (argsL := []) (rest := []) (lenOf pd_0 rfl) rfl (by show 2 * 0 + _ ≤ _; exact Nat.le_of_eq rfl) (hb hby at_101) (fun _ _ => ⟨rfl, e17, (by decide : 2 + 0 ≤ _), (by decide : 11 + 0 ≤ _)⟩)
      dsimp only [Pt.U, Pt.locs, Pt.cells, Pt.slots] at X18 l18 y18 z18 st18 hQ18
      subst l18 y18 z18
      obtain ⟨rfl, N18q, e18⟩ := hQ18
      have N18 := Fr.app N17 N18q
      obtain ⟨cq19, kq19, q19a, q19b, q19c⟩ := isOf hZ e18 A16
      obtain ⟨_, _, ⟨T19, L19, k19, n19⟩, -, X19, ⟨Lc19, hQ19, l19, y19, z19⟩, st19⟩ := X18.virtualBack hx (y := (⟨"com/example/rehydra/rehydra/KeySlots$Walk", "largestReach", "()I"⟩ : MethodName)) (z := (⟨"com/example/rehydra/rehydra/KeySlots$Walk", "largestReach", "()I"⟩ : MethodName)) hown (mvT hZ (hw _ (List.mem_of_getElem? (i := 76) rfl))) (mvT hZ (hw _ (List.mem_of_getElem? (i := 77) rfl))) (notFace_of_selects (args := #[]) (mvT hZ (hw _ (List.mem_of_getElem? (i := 79) rfl)))) (mvT hZ (hw _ (List.mem_of_getElem? (i := 79) rfl))) (mvT hZ (hw _ (List.mem_of_getElem? (i := 78) rfl))) (by decide) (backOf (W := 0) (rm13 l Z a0 hw [] b16 (1 : Int32) T16.heap n0 Z16 F16_largestReach) hZ (hw _ (List.mem_of_getElem? (i := 80) rfl)) (hw _ (List.mem_of_getElem? (i := 50) rfl)) (by decide) (by decide)) q19a q19c (g := (mkF m 111 #[.val (.int u0), .val (.int u1), .val (.int u2), .val (.int (u0 &&& (2147483647 : Int32))), .val (.int (u0 &&& (2147483647 : Int32))), .val (.ref b11), .val (.ref b16)] [(.ref b16)])) rfl (by rw [hml]; rfl) (Steps.refl _) (argsL := []) (rest := []) (lenOf pd_0 rfl) rfl (by show 2 * 0 + _ ≤ _; exact Nat.le_of_eq rfl) (hb hby at_111) (fun _ _ => ⟨rfl, e18, (by decide : 2 + 0 ≤ _), (by decide : 11 + 0 ≤ _)⟩)
      dsimp only [Pt.U, Pt.locs, Pt.cells, Pt.slots] at X19 l19 y19 z19 st19 hQ19
      subst l19 y19 z19
      obtain ⟨rfl, N19q, e19⟩ := hQ19
      have N19 := Fr.app N18 N19q
      obtain ⟨fs, hr, hrun, hended, hW, hsame⟩ := X19.leave (v := some (.int (1 : Int32))) (fun h => by rw [Bd.returns] at h; cases h)
      refine ⟨_, _, pre0 _ ?_, hrun, hended, _, _, rfl, ?_, ⟨_, rfl⟩, hW, hsame.mono (by decide) (by decide)⟩
      · show Steps p.tables e below (s₁.setTop (mkF m 0 #[.val (.int u0), .val (.int u1), .val (.int u2), .unset, .unset, .unset, .unset] [])) _
        refine XS.iloadN X0.here hx rfl (hb hby at_0) rfl ?_
        show Steps p.tables e below (s₁.setTop (mkF m 1 #[.val (.int u0), .val (.int u1), .val (.int u2), .unset, .unset, .unset, .unset] [(.int u1)])) _
        refine XS.iconst X0.here hx rfl (hb hby at_1) ?_
        show Steps p.tables e below (s₁.setTop (mkF m 2 #[.val (.int u0), .val (.int u1), .val (.int u2), .unset, .unset, .unset, .unset] [(.int (1 : Int32)), (.int u1)])) _
        refine XS.iand X0.here hx rfl (hb hby at_2) rfl ?_
        show Steps p.tables e below (s₁.setTop (mkF m 3 #[.val (.int u0), .val (.int u1), .val (.int u2), .unset, .unset, .unset, .unset] [(.int (u1 &&& (1 : Int32)))])) _
        refine XS.ifYes X0.here hx rfl (pc0 := 3) (pc' := 13) rfl (hb hby at_3) rfl ((if0 _ _).trans (teq hc3).1) (by decide) (by decide) ?_
        show Steps p.tables e below (s₁.setTop (mkF m 13 #[.val (.int u0), .val (.int u1), .val (.int u2), .unset, .unset, .unset, .unset] [])) _
        refine XS.iloadN X0.here hx rfl (hb hby at_13) rfl ?_
        show Steps p.tables e below (s₁.setTop (mkF m 14 #[.val (.int u0), .val (.int u1), .val (.int u2), .unset, .unset, .unset, .unset] [(.int u0)])) _
        refine st1 _ ?_
        show Steps p.tables e below (s₁.setTop (mkF m 16 #[.val (.int u0), .val (.int u1), .val (.int u2), .unset, .unset, .unset, .unset] [(.int (2147483647 : Int32)), (.int u0)])) _
        refine XS.iand X0.here hx rfl (hb hby at_16) rfl ?_
        show Steps p.tables e below (s₁.setTop (mkF m 17 #[.val (.int u0), .val (.int u1), .val (.int u2), .unset, .unset, .unset, .unset] [(.int (u0 &&& (2147483647 : Int32)))])) _
        refine XS.istoreN X0.here hx rfl (hb hby at_17) rfl (l' := #[.val (.int u0), .val (.int u1), .val (.int u2), .val (.int (u0 &&& (2147483647 : Int32))), .unset, .unset, .unset]) rfl ?_
        show Steps p.tables e below (s₁.setTop (mkF m 18 #[.val (.int u0), .val (.int u1), .val (.int u2), .val (.int (u0 &&& (2147483647 : Int32))), .unset, .unset, .unset] [])) _
        refine XS.iloadN X0.here hx rfl (hb hby at_18) rfl ?_
        show Steps p.tables e below (s₁.setTop (mkF m 19 #[.val (.int u0), .val (.int u1), .val (.int u2), .val (.int (u0 &&& (2147483647 : Int32))), .unset, .unset, .unset] [(.int (u0 &&& (2147483647 : Int32)))])) _
        refine XS.bipush X0.here hx rfl (hb hby at_19) ?_
        show Steps p.tables e below (s₁.setTop (mkF m 21 #[.val (.int u0), .val (.int u1), .val (.int u2), .val (.int (u0 &&& (2147483647 : Int32))), .unset, .unset, .unset] [(.int (8 : Int32)), (.int (u0 &&& (2147483647 : Int32)))])) _
        refine XS.icmpNo X0.here hx rfl (hb hby at_21) rfl (flt hc21).2.2.1 ?_
        show Steps p.tables e below (s₁.setTop (mkF m 24 #[.val (.int u0), .val (.int u1), .val (.int u2), .val (.int (u0 &&& (2147483647 : Int32))), .unset, .unset, .unset] [])) _
        refine XS.iloadN X0.here hx rfl (hb hby at_24) rfl ?_
        show Steps p.tables e below (s₁.setTop (mkF m 25 #[.val (.int u0), .val (.int u1), .val (.int u2), .val (.int (u0 &&& (2147483647 : Int32))), .unset, .unset, .unset] [(.int (u0 &&& (2147483647 : Int32)))])) _
        refine XS.goto X0.here hx rfl (pc0 := 25) (pc' := 29) rfl (hb hby at_25) (by decide) (by decide) ?_
        show Steps p.tables e below (s₁.setTop (mkF m 29 #[.val (.int u0), .val (.int u1), .val (.int u2), .val (.int (u0 &&& (2147483647 : Int32))), .unset, .unset, .unset] [(.int (u0 &&& (2147483647 : Int32)))])) _
        refine XS.istore X0.here hx rfl (hb hby at_29) rfl (l' := #[.val (.int u0), .val (.int u1), .val (.int u2), .val (.int (u0 &&& (2147483647 : Int32))), .val (.int (u0 &&& (2147483647 : Int32))), .unset, .unset]) rfl ?_
        show Steps p.tables e below (s₁.setTop (mkF m 31 #[.val (.int u0), .val (.int u1), .val (.int u2), .val (.int (u0 &&& (2147483647 : Int32))), .val (.int (u0 &&& (2147483647 : Int32))), .unset, .unset] [])) _
        refine XS.iloadN X0.here hx rfl (hb hby at_31) rfl ?_
        show Steps p.tables e below (s₁.setTop (mkF m 32 #[.val (.int u0), .val (.int u1), .val (.int u2), .val (.int (u0 &&& (2147483647 : Int32))), .val (.int (u0 &&& (2147483647 : Int32))), .unset, .unset] [(.int (u0 &&& (2147483647 : Int32)))])) _
        refine st11 _ ?_
        show Steps p.tables e below (T11.setTop (mkF m 35 #[.val (.int u0), .val (.int u1), .val (.int u2), .val (.int (u0 &&& (2147483647 : Int32))), .val (.int (u0 &&& (2147483647 : Int32))), .unset, .unset] [(.ref b11)])) _
        refine XS.astore X11.here hx rfl (hb hby at_35) rfl rfl (l' := #[.val (.int u0), .val (.int u1), .val (.int u2), .val (.int (u0 &&& (2147483647 : Int32))), .val (.int (u0 &&& (2147483647 : Int32))), .val (.ref b11), .unset]) rfl ?_
        show Steps p.tables e below (T11.setTop (mkF m 37 #[.val (.int u0), .val (.int u1), .val (.int u2), .val (.int (u0 &&& (2147483647 : Int32))), .val (.int (u0 &&& (2147483647 : Int32))), .val (.ref b11), .unset] [])) _
        refine XS.aload X11.here hx rfl (hb hby at_37) rfl rfl ?_
        show Steps p.tables e below (T11.setTop (mkF m 39 #[.val (.int u0), .val (.int u1), .val (.int u2), .val (.int (u0 &&& (2147483647 : Int32))), .val (.int (u0 &&& (2147483647 : Int32))), .val (.ref b11), .unset] [(.ref b11)])) _
        refine st12.trans ?_
        show Steps p.tables e below (T12.setTop (mkF m 42 #[.val (.int u0), .val (.int u1), .val (.int u2), .val (.int (u0 &&& (2147483647 : Int32))), .val (.int (u0 &&& (2147483647 : Int32))), .val (.ref b11), .unset] [(.int (cnt (u0 &&& (2147483647 : Int32))))])) _
        refine XS.iload X12.here hx rfl (hb hby at_42) rfl ?_
        show Steps p.tables e below (T12.setTop (mkF m 44 #[.val (.int u0), .val (.int u1), .val (.int u2), .val (.int (u0 &&& (2147483647 : Int32))), .val (.int (u0 &&& (2147483647 : Int32))), .val (.ref b11), .unset] [(.int (u0 &&& (2147483647 : Int32))), (.int (cnt (u0 &&& (2147483647 : Int32))))])) _
        refine XS.icmpYes X12.here hx rfl (pc0 := 44) (pc' := 49) rfl (hb hby at_44) rfl (teq (by unfold cnt; simp [hc21])).1 (by decide) (by decide) ?_
        show Steps p.tables e below (T12.setTop (mkF m 49 #[.val (.int u0), .val (.int u1), .val (.int u2), .val (.int (u0 &&& (2147483647 : Int32))), .val (.int (u0 &&& (2147483647 : Int32))), .val (.ref b11), .unset] [])) _
        refine XS.aload X12.here hx rfl (hb hby at_49) rfl rfl ?_
        show Steps p.tables e below (T12.setTop (mkF m 51 #[.val (.int u0), .val (.int u1), .val (.int u2), .val (.int (u0 &&& (2147483647 : Int32))), .val (.int (u0 &&& (2147483647 : Int32))), .val (.ref b11), .unset] [(.ref b11)])) _
        refine st13.trans ?_
        show Steps p.tables e below (T13.setTop (mkF m 54 #[.val (.int u0), .val (.int u1), .val (.int u2), .val (.int (u0 &&& (2147483647 : Int32))), .val (.int (u0 &&& (2147483647 : Int32))), .val (.ref b11), .unset] [(.int (11 : Int32))])) _
        refine XS.bipush X13.here hx rfl (hb hby at_54) ?_
        show Steps p.tables e below (T13.setTop (mkF m 56 #[.val (.int u0), .val (.int u1), .val (.int u2), .val (.int (u0 &&& (2147483647 : Int32))), .val (.int (u0 &&& (2147483647 : Int32))), .val (.ref b11), .unset] [(.int (11 : Int32)), (.int (11 : Int32))])) _
        refine XS.icmpYes X13.here hx rfl (pc0 := 56) (pc' := 61) rfl (hb hby at_56) rfl (teq (by decide)).1 (by decide) (by decide) ?_
        show Steps p.tables e below (T13.setTop (mkF m 61 #[.val (.int u0), .val (.int u1), .val (.int u2), .val (.int (u0 &&& (2147483647 : Int32))), .val (.int (u0 &&& (2147483647 : Int32))), .val (.ref b11), .unset] [])) _
        refine XS.aload X13.here hx rfl (hb hby at_61) rfl rfl ?_
        show Steps p.tables e below (T13.setTop (mkF m 63 #[.val (.int u0), .val (.int u1), .val (.int u2), .val (.int (u0 &&& (2147483647 : Int32))), .val (.int (u0 &&& (2147483647 : Int32))), .val (.ref b11), .unset] [(.ref b11)])) _
        refine st14.trans ?_
        show Steps p.tables e below (T14.setTop (mkF m 66 #[.val (.int u0), .val (.int u1), .val (.int u2), .val (.int (u0 &&& (2147483647 : Int32))), .val (.int (u0 &&& (2147483647 : Int32))), .val (.ref b11), .unset] [(.int (0 : Int32))])) _
        refine XS.ifYes X14.here hx rfl (pc0 := 66) (pc' := 71) rfl (hb hby at_66) rfl ((if0 _ _).trans (teq (by decide)).1) (by decide) (by decide) ?_
        show Steps p.tables e below (T14.setTop (mkF m 71 #[.val (.int u0), .val (.int u1), .val (.int u2), .val (.int (u0 &&& (2147483647 : Int32))), .val (.int (u0 &&& (2147483647 : Int32))), .val (.ref b11), .unset] [])) _
        refine XS.aload X14.here hx rfl (hb hby at_71) rfl rfl ?_
        show Steps p.tables e below (T14.setTop (mkF m 73 #[.val (.int u0), .val (.int u1), .val (.int u2), .val (.int (u0 &&& (2147483647 : Int32))), .val (.int (u0 &&& (2147483647 : Int32))), .val (.ref b11), .unset] [(.ref b11)])) _
        refine st15.trans ?_
        show Steps p.tables e below (T15.setTop (mkF m 76 #[.val (.int u0), .val (.int u1), .val (.int u2), .val (.int (u0 &&& (2147483647 : Int32))), .val (.int (u0 &&& (2147483647 : Int32))), .val (.ref b11), .unset] [(.int (0 : Int32))])) _
        refine XS.ifYes X15.here hx rfl (pc0 := 76) (pc' := 81) rfl (hb hby at_76) rfl ((if0 _ _).trans (teq (by decide)).1) (by decide) (by decide) ?_
        show Steps p.tables e below (T15.setTop (mkF m 81 #[.val (.int u0), .val (.int u1), .val (.int u2), .val (.int (u0 &&& (2147483647 : Int32))), .val (.int (u0 &&& (2147483647 : Int32))), .val (.ref b11), .unset] [])) _
        refine XS.aload X15.here hx rfl (hb hby at_81) rfl rfl ?_
        show Steps p.tables e below (T15.setTop (mkF m 83 #[.val (.int u0), .val (.int u1), .val (.int u2), .val (.int (u0 &&& (2147483647 : Int32))), .val (.int (u0 &&& (2147483647 : Int32))), .val (.ref b11), .unset] [(.ref b11)])) _
        refine XS.iloadN X15.here hx rfl (hb hby at_83) rfl ?_
        show Steps p.tables e below (T15.setTop (mkF m 84 #[.val (.int u0), .val (.int u1), .val (.int u2), .val (.int (u0 &&& (2147483647 : Int32))), .val (.int (u0 &&& (2147483647 : Int32))), .val (.ref b11), .unset] [(.int u2), (.ref b11)])) _
        refine st16.trans ?_
        show Steps p.tables e below (T16.setTop (mkF m 87 #[.val (.int u0), .val (.int u1), .val (.int u2), .val (.int (u0 &&& (2147483647 : Int32))), .val (.int (u0 &&& (2147483647 : Int32))), .val (.ref b11), .unset] [(.ref b16)])) _
        refine XS.astore X16.here hx rfl (hb hby at_87) rfl rfl (l' := #[.val (.int u0), .val (.int u1), .val (.int u2), .val (.int (u0 &&& (2147483647 : Int32))), .val (.int (u0 &&& (2147483647 : Int32))), .val (.ref b11), .val (.ref b16)]) rfl ?_
        show Steps p.tables e below (T16.setTop (mkF m 89 #[.val (.int u0), .val (.int u1), .val (.int u2), .val (.int (u0 &&& (2147483647 : Int32))), .val (.int (u0 &&& (2147483647 : Int32))), .val (.ref b11), .val (.ref b16)] [])) _
        refine XS.aload X16.here hx rfl (hb hby at_89) rfl rfl ?_
        show Steps p.tables e below (T16.setTop (mkF m 91 #[.val (.int u0), .val (.int u1), .val (.int u2), .val (.int (u0 &&& (2147483647 : Int32))), .val (.int (u0 &&& (2147483647 : Int32))), .val (.ref b11), .val (.ref b16)] [(.ref b16)])) _
        refine st17.trans ?_
        show Steps p.tables e below (T17.setTop (mkF m 94 #[.val (.int u0), .val (.int u1), .val (.int u2), .val (.int (u0 &&& (2147483647 : Int32))), .val (.int (u0 &&& (2147483647 : Int32))), .val (.ref b11), .val (.ref b16)] [(.int (cnt (u0 &&& (2147483647 : Int32))))])) _
        refine XS.iload X17.here hx rfl (hb hby at_94) rfl ?_
        show Steps p.tables e below (T17.setTop (mkF m 96 #[.val (.int u0), .val (.int u1), .val (.int u2), .val (.int (u0 &&& (2147483647 : Int32))), .val (.int (u0 &&& (2147483647 : Int32))), .val (.ref b11), .val (.ref b16)] [(.int (u0 &&& (2147483647 : Int32))), (.int (cnt (u0 &&& (2147483647 : Int32))))])) _
        refine XS.icmpNo X17.here hx rfl (hb hby at_96) rfl (teq (by unfold cnt; simp [hc21])).2 ?_
        show Steps p.tables e below (T17.setTop (mkF m 99 #[.val (.int u0), .val (.int u1), .val (.int u2), .val (.int (u0 &&& (2147483647 : Int32))), .val (.int (u0 &&& (2147483647 : Int32))), .val (.ref b11), .val (.ref b16)] [])) _
        refine XS.aload X17.here hx rfl (hb hby at_99) rfl rfl ?_
        show Steps p.tables e below (T17.setTop (mkF m 101 #[.val (.int u0), .val (.int u1), .val (.int u2), .val (.int (u0 &&& (2147483647 : Int32))), .val (.int (u0 &&& (2147483647 : Int32))), .val (.ref b11), .val (.ref b16)] [(.ref b16)])) _
        refine st18.trans ?_
        show Steps p.tables e below (T18.setTop (mkF m 104 #[.val (.int u0), .val (.int u1), .val (.int u2), .val (.int (u0 &&& (2147483647 : Int32))), .val (.int (u0 &&& (2147483647 : Int32))), .val (.ref b11), .val (.ref b16)] [(.int (cnt (u0 &&& (2147483647 : Int32))))])) _
        refine XS.iload X18.here hx rfl (hb hby at_104) rfl ?_
        show Steps p.tables e below (T18.setTop (mkF m 106 #[.val (.int u0), .val (.int u1), .val (.int u2), .val (.int (u0 &&& (2147483647 : Int32))), .val (.int (u0 &&& (2147483647 : Int32))), .val (.ref b11), .val (.ref b16)] [(.int (u0 &&& (2147483647 : Int32))), (.int (cnt (u0 &&& (2147483647 : Int32))))])) _
        refine XS.icmpNo X18.here hx rfl (hb hby at_106) rfl (teq (by unfold cnt; simp [hc21])).2 ?_
        show Steps p.tables e below (T18.setTop (mkF m 109 #[.val (.int u0), .val (.int u1), .val (.int u2), .val (.int (u0 &&& (2147483647 : Int32))), .val (.int (u0 &&& (2147483647 : Int32))), .val (.ref b11), .val (.ref b16)] [])) _
        refine XS.aload X18.here hx rfl (hb hby at_109) rfl rfl ?_
        show Steps p.tables e below (T18.setTop (mkF m 111 #[.val (.int u0), .val (.int u1), .val (.int u2), .val (.int (u0 &&& (2147483647 : Int32))), .val (.int (u0 &&& (2147483647 : Int32))), .val (.ref b11), .val (.ref b16)] [(.ref b16)])) _
        refine st19.trans ?_
        show Steps p.tables e below (T19.setTop (mkF m 114 #[.val (.int u0), .val (.int u1), .val (.int u2), .val (.int (u0 &&& (2147483647 : Int32))), .val (.int (u0 &&& (2147483647 : Int32))), .val (.ref b11), .val (.ref b16)] [(.int (1 : Int32))])) _
        refine XS.iconst X19.here hx rfl (hb hby at_114) ?_
        show Steps p.tables e below (T19.setTop (mkF m 115 #[.val (.int u0), .val (.int u1), .val (.int u2), .val (.int (u0 &&& (2147483647 : Int32))), .val (.int (u0 &&& (2147483647 : Int32))), .val (.ref b11), .val (.ref b16)] [(.int (1 : Int32)), (.int (1 : Int32))])) _
        refine XS.icmpNo X19.here hx rfl (hb hby at_115) rfl (teq (by decide)).2 ?_
        show Steps p.tables e below (T19.setTop (mkF m 118 #[.val (.int u0), .val (.int u1), .val (.int u2), .val (.int (u0 &&& (2147483647 : Int32))), .val (.int (u0 &&& (2147483647 : Int32))), .val (.ref b11), .val (.ref b16)] [])) _
        refine XS.iconst X19.here hx rfl (hb hby at_118) ?_
        show Steps p.tables e below (T19.setTop (mkF m 119 #[.val (.int u0), .val (.int u1), .val (.int u2), .val (.int (u0 &&& (2147483647 : Int32))), .val (.int (u0 &&& (2147483647 : Int32))), .val (.ref b11), .val (.ref b16)] [(.int (1 : Int32))])) _
        refine XS.goto X19.here hx rfl (pc0 := 119) (pc' := 123) rfl (hb hby at_119) (by decide) (by decide) ?_
        show Steps p.tables e below (T19.setTop (mkF m 123 #[.val (.int u0), .val (.int u1), .val (.int u2), .val (.int (u0 &&& (2147483647 : Int32))), .val (.int (u0 &&& (2147483647 : Int32))), .val (.ref b11), .val (.ref b16)] [(.int (1 : Int32))])) _
        exact retN X19 hx (t := .boolean) Bd.returns (by simp) (hb hby at_123) hr
      · show Q0 Z u0 u1 u2 h0 n0 _ T19.heap _
        rw [e19]
        exact ⟨rfl, N19⟩
  · by_cases hc21 : (8 : Int32) < (u0 &&& (15 : Int32))
    · obtain ⟨_, _, ⟨T20, L20, k20, n20⟩, -, X20, ⟨Lc20, hQ20, l20, y20, z20⟩, st20⟩ := Jvm.LawKit.callS X0 hx (y := (⟨"com/example/rehydra/rehydra/KeySlots", "builtWithNoValues", "(I)Lcom/example/rehydra/rehydra/KeySlots;"⟩ : MethodName)) hown (mvT hZ (hw _ (List.mem_of_getElem? (i := 0) rfl))) (mvT hZ (hw _ (List.mem_of_getElem? (i := 1) rfl))) (mvT hZ (hw _ (List.mem_of_getElem? (i := 2) rfl))) (mvT hZ (hw _ (List.mem_of_getElem? (i := 3) rfl))) (by decide) (backOf (W := 0) (rm1 l Z a0 hw [] (u0 &&& (15 : Int32)) h0 n0 Z0 ) hZ (hw _ (List.mem_of_getElem? (i := 3) rfl)) (hw _ (List.mem_of_getElem? (i := 2) rfl)) (by decide) (by decide)) (g := (mkF m 32 #[.val (.int u0), .val (.int u1), .val (.int u2), .val (.int (u0 &&& (15 : Int32))), .val (.int (0 : Int32)), .unset, .unset] [(.int (u0 &&& (15 : Int32)))])) rfl (by rw [hml]; rfl) (argsL := [(.int (u0 &&& (15 : Int32)))]) (rest := []) (lenOf pd_4 rfl) rfl (by show 2 * 0 + _ ≤ _; exact Nat.le_of_eq rfl) (hb hby at_32) (fun _ _ => ⟨rfl, e0, (by decide : 0 + 1 ≤ _), (by decide : 0 + 8 ≤ _)⟩)
      dsimp only [Pt.U, Pt.locs, Pt.cells, Pt.slots] at X20 l20 y20 z20 st20 hQ20
      subst l20 y20 z20
      obtain ⟨hv20, N20q, K20, A20, F20_count, F20_capacity, F20_loadFactor, F20_large, F20_heads⟩ := hQ20
      obtain ⟨b20, g20⟩ : ∃ z, z = h0.size := ⟨_, rfl⟩
      rw [← g20] at hv20 A20 F20_count F20_capacity F20_loadFactor F20_large F20_heads
      subst hv20
      have g_b20 : n0 ≤ b20 := Nat.le_trans Z0 (Nat.le_of_eq g20.symm)
      have sz_b20 : h0.size ≤ b20 := Nat.le_trans (Keep.refl h0 []).1 (Nat.le_of_eq g20.symm)
      have N20 := Fr.app N0 N20q
      have Z20 : n0 ≤ T20.heap.size := Nat.le_trans Z0 K20.1
      have KK20 := (Keep.refl h0 []).trans K20 all0
      obtain ⟨cq21, kq21, q21a, q21b, q21c⟩ := isOf hZ rfl A20
      obtain ⟨_, _, ⟨T21, L21, k21, n21⟩, -, X21, ⟨Lc21, hQ21, l21, y21, z21⟩, st21⟩ := X20.virtualBack hx (y := (⟨"com/example/rehydra/rehydra/KeySlots", "count", "()I"⟩ : MethodName)) (z := (⟨"com/example/rehydra/rehydra/KeySlots", "count", "()I"⟩ : MethodName)) hown (mvT hZ (hw _ (List.mem_of_getElem? (i := 19) rfl))) (mvT hZ (hw _ (List.mem_of_getElem? (i := 20) rfl))) (notFace_of_selects (args := #[]) (mvT hZ (hw _ (List.mem_of_getElem? (i := 22) rfl)))) (mvT hZ (hw _ (List.mem_of_getElem? (i := 22) rfl))) (mvT hZ (hw _ (List.mem_of_getElem? (i := 21) rfl))) (by decide) (backOf (W := 0) (rm4 l Z a0 hw [] b20 (cnt (u0 &&& (15 : Int32))) T20.heap n0 Z20 F20_count) hZ (hw _ (List.mem_of_getElem? (i := 23) rfl)) (hw _ (List.mem_of_getElem? (i := 2) rfl)) (by decide) (by decide)) q21a q21c (g := (mkF m 39 #[.val (.int u0), .val (.int u1), .val (.int u2), .val (.int (u0 &&& (15 : Int32))), .val (.int (0 : Int32)), .val (.ref b20), .unset] [(.ref b20)])) rfl (by rw [hml]; rfl) (Steps.refl _) (argsL := []) (rest := []) (lenOf pd_0 rfl) rfl (by show 2 * 0 + _ ≤ _; exact Nat.le_of_eq rfl) (hb hby at_39) (fun _ _ => ⟨rfl, rfl, (by decide : 1 + 0 ≤ _), (by decide : 8 + 0 ≤ _)⟩)
      dsimp only [Pt.U, Pt.locs, Pt.cells, Pt.slots] at X21 l21 y21 z21 st21 hQ21
      subst l21 y21 z21
      obtain ⟨rfl, N21q, e21⟩ := hQ21
      have N21 := Fr.app N20 N21q
      obtain ⟨cq22, kq22, q22a, q22b, q22c⟩ := isOf hZ e21 A20
      obtain ⟨_, _, ⟨T22, L22, k22, n22⟩, -, X22, ⟨Lc22, hQ22, l22, y22, z22⟩, st22⟩ := X21.virtualBack hx (y := (⟨"com/example/rehydra/rehydra/KeySlots", "capacity", "()I"⟩ : MethodName)) (z := (⟨"com/example/rehydra/rehydra/KeySlots", "capacity", "()I"⟩ : MethodName)) hown (mvT hZ (hw _ (List.mem_of_getElem? (i := 24) rfl))) (mvT hZ (hw _ (List.mem_of_getElem? (i := 25) rfl))) (notFace_of_selects (args := #[]) (mvT hZ (hw _ (List.mem_of_getElem? (i := 27) rfl)))) (mvT hZ (hw _ (List.mem_of_getElem? (i := 27) rfl))) (mvT hZ (hw _ (List.mem_of_getElem? (i := 26) rfl))) (by decide) (backOf (W := 0) (rm5 l Z a0 hw [] b20 (11 : Int32) T20.heap n0 Z20 F20_capacity) hZ (hw _ (List.mem_of_getElem? (i := 28) rfl)) (hw _ (List.mem_of_getElem? (i := 2) rfl)) (by decide) (by decide)) q22a q22c (g := (mkF m 51 #[.val (.int u0), .val (.int u1), .val (.int u2), .val (.int (u0 &&& (15 : Int32))), .val (.int (0 : Int32)), .val (.ref b20), .unset] [(.ref b20)])) rfl (by rw [hml]; rfl) (Steps.refl _) (argsL := []) (rest := []) (lenOf pd_0 rfl) rfl (by show 2 * 0 + _ ≤ _; exact Nat.le_of_eq rfl) (hb hby at_51) (fun _ _ => ⟨rfl, e21, (by decide : 1 + 0 ≤ _), (by decide : 8 + 0 ≤ _)⟩)
      dsimp only [Pt.U, Pt.locs, Pt.cells, Pt.slots] at X22 l22 y22 z22 st22 hQ22
      subst l22 y22 z22
      obtain ⟨rfl, N22q, e22⟩ := hQ22
      have N22 := Fr.app N21 N22q
      obtain ⟨cq23, kq23, q23a, q23b, q23c⟩ := isOf hZ e22 A20
      obtain ⟨_, _, ⟨T23, L23, k23, n23⟩, -, X23, ⟨Lc23, hQ23, l23, y23, z23⟩, st23⟩ := X22.virtualBack hx (y := (⟨"com/example/rehydra/rehydra/KeySlots", "worthKeeping", "()Z"⟩ : MethodName)) (z := (⟨"com/example/rehydra/rehydra/KeySlots", "worthKeeping", "()Z"⟩ : MethodName)) hown (mvT hZ (hw _ (List.mem_of_getElem? (i := 29) rfl))) (mvT hZ (hw _ (List.mem_of_getElem? (i := 30) rfl))) (notFace_of_selects (args := #[]) (mvT hZ (hw _ (List.mem_of_getElem? (i := 32) rfl)))) (mvT hZ (hw _ (List.mem_of_getElem? (i := 32) rfl))) (mvT hZ (hw _ (List.mem_of_getElem? (i := 31) rfl))) (by decide) (backOf (W := 0) (rm6 l Z a0 hw [] b20 T20.heap n0 Z20 F20_capacity F20_loadFactor F20_large) hZ (hw _ (List.mem_of_getElem? (i := 33) rfl)) (hw _ (List.mem_of_getElem? (i := 2) rfl)) (by decide) (by decide)) q23a q23c (g := (mkF m 63 #[.val (.int u0), .val (.int u1), .val (.int u2), .val (.int (u0 &&& (15 : Int32))), .val (.int (0 : Int32)), .val (.ref b20), .unset] [(.ref b20)])) rfl (by rw [hml]; rfl) (Steps.refl _) (argsL := []) (rest := []) (lenOf pd_2 rfl) rfl (by show 2 * 0 + _ ≤ _; exact Nat.le_of_eq rfl) (hb hby at_63) (fun _ _ => ⟨rfl, e22, (by decide : 1 + 0 ≤ _), (by decide : 8 + 0 ≤ _)⟩)
      dsimp only [Pt.U, Pt.locs, Pt.cells, Pt.slots] at X23 l23 y23 z23 st23 hQ23
      subst l23 y23 z23
      obtain ⟨rfl, N23q, e23⟩ := hQ23
      have N23 := Fr.app N22 N23q
      obtain ⟨cq24, kq24, q24a, q24b, q24c⟩ := isOf hZ e23 A20
      obtain ⟨_, _, ⟨T24, L24, k24, n24⟩, -, X24, ⟨Lc24, hQ24, l24, y24, z24⟩, st24⟩ := X23.virtualBack hx (y := (⟨"com/example/rehydra/rehydra/KeySlots", "crowded", "()Z"⟩ : MethodName)) (z := (⟨"com/example/rehydra/rehydra/KeySlots", "crowded", "()Z"⟩ : MethodName)) hown (mvT hZ (hw _ (List.mem_of_getElem? (i := 36) rfl))) (mvT hZ (hw _ (List.mem_of_getElem? (i := 37) rfl))) (notFace_of_selects (args := #[]) (mvT hZ (hw _ (List.mem_of_getElem? (i := 39) rfl)))) (mvT hZ (hw _ (List.mem_of_getElem? (i := 39) rfl))) (mvT hZ (hw _ (List.mem_of_getElem? (i := 38) rfl))) (by decide) (backOf (W := 0) (rm7 l Z a0 hw [] b20 (cnt (u0 &&& (15 : Int32))) T20.heap n0 Z20 F20_heads F20_count (cnt_le _)) hZ (hw _ (List.mem_of_getElem? (i := 40) rfl)) (hw _ (List.mem_of_getElem? (i := 2) rfl)) (by decide) (by decide)) q24a q24c (g := (mkF m 73 #[.val (.int u0), .val (.int u1), .val (.int u2), .val (.int (u0 &&& (15 : Int32))), .val (.int (0 : Int32)), .val (.ref b20), .unset] [(.ref b20)])) rfl (by rw [hml]; rfl) (Steps.refl _) (argsL := []) (rest := []) (lenOf pd_2 rfl) rfl (by show 2 * 0 + _ ≤ _; exact Nat.le_of_eq rfl) (hb hby at_73) (fun _ _ => ⟨rfl, e23, (by decide : 1 + 0 ≤ _), (by decide : 8 + 0 ≤ _)⟩)
      dsimp only [Pt.U, Pt.locs, Pt.cells, Pt.slots] at X24 l24 y24 z24 st24 hQ24
      subst l24 y24 z24
      obtain ⟨rfl, N24q, e24⟩ := hQ24
      have N24 := Fr.app N23 N24q
      obtain ⟨cq25, kq25, q25a, q25b, q25c⟩ := isOf hZ e24 A20
      obtain ⟨_, _, ⟨T25, L25, k25, n25⟩, -, X25, ⟨Lc25, hQ25, l25, y25, z25⟩, st25⟩ := X24.virtualBack hx (y := (⟨"com/example/rehydra/rehydra/KeySlots", "walk", "(I)Lcom/example/rehydra/rehydra/KeySlots$Walk;"⟩ : MethodName)) (z := (⟨"com/example/rehydra/rehydra/KeySlots", "walk", "(I)Lcom/example/rehydra/rehydra/KeySlots$Walk;"⟩ : MethodName)) hown (mvT hZ (hw _ (List.mem_of_getElem? (i := 43) rfl))) (mvT hZ (hw _ (List.mem_of_getElem? (i := 44) rfl))) (notFace_of_selects (args := #[]) (mvT hZ (hw _ (List.mem_of_getElem? (i := 46) rfl)))) (mvT hZ (hw _ (List.mem_of_getElem? (i := 46) rfl))) (mvT hZ (hw _ (List.mem_of_getElem? (i := 45) rfl))) (by decide) (backOf (W := 0) (rm8 l Z a0 hw [] b20 u2 (cnt (u0 &&& (15 : Int32))) T20.heap n0 Z20 F20_heads F20_count F20_large) hZ (hw _ (List.mem_of_getElem? (i := 47) rfl)) (hw _ (List.mem_of_getElem? (i := 2) rfl)) (by decide) (by decide)) q25a q25c (g := (mkF m 84 #[.val (.int u0), .val (.int u1), .val (.int u2), .val (.int (u0 &&& (15 : Int32))), .val (.int (0 : Int32)), .val (.ref b20), .unset] [(.int u2), (.ref b20)])) rfl (by rw [hml]; rfl) (Steps.refl _) (argsL := [(.int u2)]) (rest := []) (lenOf pd_3 rfl) rfl (by show 2 * 0 + _ ≤ _; exact Nat.le_of_eq rfl) (hb hby at_84) (fun _ _ => ⟨rfl, e24, (by decide : 1 + 1 ≤ _), (by decide : 8 + 3 ≤ _)⟩)
      dsimp only [Pt.U, Pt.locs, Pt.cells, Pt.slots] at X25 l25 y25 z25 st25 hQ25
      subst l25 y25 z25
      obtain ⟨hv25, N25q, K25, A25, F25_keys, F25_sameHash, F25_largestReach⟩ := hQ25
      obtain ⟨b25, g25⟩ : ∃ z, z = T20.heap.size := ⟨_, rfl⟩
      rw [← g25] at hv25 A25 F25_keys F25_sameHash F25_largestReach
      subst hv25
      have g_b25 : n0 ≤ b25 := Nat.le_trans Z20 (Nat.le_of_eq g25.symm)
      have sz_b25 : h0.size ≤ b25 := Nat.le_trans KK20.1 (Nat.le_of_eq g25.symm)
      have N25 := Fr.app N24 N25q
      have Z25 : n0 ≤ T25.heap.size := Nat.le_trans Z20 K25.1
      have KK25 := KK20.trans K25 all0
      obtain ⟨cq26, kq26, q26a, q26b, q26c⟩ := isOf hZ rfl A25
      obtain ⟨_, _, ⟨T26, L26, k26, n26⟩, -, X26, ⟨Lc26, hQ26, l26, y26, z26⟩, st26⟩ := X25.virtualBack hx (y := (⟨"com/example/rehydra/rehydra/KeySlots$Walk", "keys", "()I"⟩ : MethodName)) (z := (⟨"com/example/rehydra/rehydra/KeySlots$Walk", "keys", "()I"⟩ : MethodName)) hown (mvT hZ (hw _ (List.mem_of_getElem? (i := 66) rfl))) (mvT hZ (hw _ (List.mem_of_getElem? (i := 67) rfl))) (notFace_of_selects (args := #[]) (mvT hZ (hw _ (List.mem_of_getElem? (i := 69) rfl)))) (mvT hZ (hw _ (List.mem_of_getElem? (i := 69) rfl))) (mvT hZ (hw _ (List.mem_of_getElem? (i := 68) rfl))) (by decide) (backOf (W := 0) (rm11 l Z a0 hw [] b25 (cnt (u0 &&& (15 : Int32))) T25.heap n0 Z25 F25_keys) hZ (hw _ (List.mem_of_getElem? (i := 70) rfl)) (hw _ (List.mem_of_getElem? (i := 50) rfl)) (by decide) (by decide)) q26a q26c (g := (mkF m 91 #[.val (.int u0), .val (.int u1), .val (.int u2), .val (.int (u0 &&& (15 : Int32))), .val (.int (0 : Int32)), .val (.ref b20), .val (.ref b25)] [(.ref b25)])) rfl (by rw [hml]; rfl) (Steps.refl _) (argsL := []) (rest := []) (lenOf pd_0 rfl) rfl (by show 2 * 0 + _ ≤ _; exact Nat.le_of_eq rfl) (hb hby at_91) (fun _ _ => ⟨rfl, rfl, (by decide : 2 + 0 ≤ _), (by decide : 11 + 0 ≤ _)⟩)
      dsimp only [Pt.U, Pt.locs, Pt.cells, Pt.slots] at X26 l26 y26 z26 st26 hQ26
      subst l26 y26 z26
      obtain ⟨rfl, N26q, e26⟩ := hQ26
      have N26 := Fr.app N25 N26q
      obtain ⟨cq27, kq27, q27a, q27b, q27c⟩ := isOf hZ e26 A25
      obtain ⟨_, _, ⟨T27, L27, k27, n27⟩, -, X27, ⟨Lc27, hQ27, l27, y27, z27⟩, st27⟩ := X26.virtualBack hx (y := (⟨"com/example/rehydra/rehydra/KeySlots$Walk", "sameHash", "()I"⟩ : MethodName)) (z := (⟨"com/example/rehydra/rehydra/KeySlots$Walk", "sameHash", "()I"⟩ : MethodName)) hown (mvT hZ (hw _ (List.mem_of_getElem? (i := 71) rfl))) (mvT hZ (hw _ (List.mem_of_getElem? (i := 72) rfl))) (notFace_of_selects (args := #[]) (mvT hZ (hw _ (List.mem_of_getElem? (i := 74) rfl)))) (mvT hZ (hw _ (List.mem_of_getElem? (i := 74) rfl))) (mvT hZ (hw _ (List.mem_of_getElem? (i := 73) rfl))) (by decide) (backOf (W := 0) (rm12 l Z a0 hw [] b25 (cnt (u0 &&& (15 : Int32))) T25.heap n0 Z25 F25_sameHash) hZ (hw _ (List.mem_of_getElem? (i := 75) rfl)) (hw _ (List.mem_of_getElem? (i := 50) rfl)) (by decide) (by decide)) q27a q27c (g := (mkF m 101 #[.val (.int u0), .val (.int u1), .val (.int u2), .val (.int (u0 &&& (15 : Int32))), .val (.int (0 : Int32)), .val (.ref b20), .val (.ref b25)] [(.ref b25)])) rfl (by rw [hml]; rfl) (Steps.refl _) (argsL := []) (rest := []) (lenOf pd_0 rfl) rfl (by show 2 * 0 + _ ≤ _; exact Nat.le_of_eq rfl) (hb hby at_101) (fun _ _ => ⟨rfl, e26, (by decide : 2 + 0 ≤ _), (by decide : 11 + 0 ≤ _)⟩)
      dsimp only [Pt.U, Pt.locs, Pt.cells, Pt.slots] at X27 l27 y27 z27 st27 hQ27
      subst l27 y27 z27
      obtain ⟨rfl, N27q, e27⟩ := hQ27
      have N27 := Fr.app N26 N27q
      obtain ⟨cq28, kq28, q28a, q28b, q28c⟩ := isOf hZ e27 A25
      obtain ⟨_, _, ⟨T28, L28, k28, n28⟩, -, X28, ⟨Lc28, hQ28, l28, y28, z28⟩, st28⟩ := X27.virtualBack hx (y := (⟨"com/example/rehydra/rehydra/KeySlots$Walk", "largestReach", "()I"⟩ : MethodName)) (z := (⟨"com/example/rehydra/rehydra/KeySlots$Walk", "largestReach", "()I"⟩ : MethodName)) hown (mvT hZ (hw _ (List.mem_of_getElem? (i := 76) rfl))) (mvT hZ (hw _ (List.mem_of_getElem? (i := 77) rfl))) (notFace_of_selects (args := #[]) (mvT hZ (hw _ (List.mem_of_getElem? (i := 79) rfl)))) (mvT hZ (hw _ (List.mem_of_getElem? (i := 79) rfl))) (mvT hZ (hw _ (List.mem_of_getElem? (i := 78) rfl))) (by decide) (backOf (W := 0) (rm13 l Z a0 hw [] b25 (1 : Int32) T25.heap n0 Z25 F25_largestReach) hZ (hw _ (List.mem_of_getElem? (i := 80) rfl)) (hw _ (List.mem_of_getElem? (i := 50) rfl)) (by decide) (by decide)) q28a q28c (g := (mkF m 111 #[.val (.int u0), .val (.int u1), .val (.int u2), .val (.int (u0 &&& (15 : Int32))), .val (.int (0 : Int32)), .val (.ref b20), .val (.ref b25)] [(.ref b25)])) rfl (by rw [hml]; rfl) (Steps.refl _) (argsL := []) (rest := []) (lenOf pd_0 rfl) rfl (by show 2 * 0 + _ ≤ _; exact Nat.le_of_eq rfl) (hb hby at_111) (fun _ _ => ⟨rfl, e27, (by decide : 2 + 0 ≤ _), (by decide : 11 + 0 ≤ _)⟩)
      dsimp only [Pt.U, Pt.locs, Pt.cells, Pt.slots] at X28 l28 y28 z28 st28 hQ28
      subst l28 y28 z28
      obtain ⟨rfl, N28q, e28⟩ := hQ28
      have N28 := Fr.app N27 N28q
      obtain ⟨fs, hr, hrun, hended, hW, hsame⟩ := X28.leave (v := some (.int (1 : Int32))) (fun h => by rw [Bd.returns] at h; cases h)
      refine ⟨_, _, pre0 _ ?_, hrun, hended, _, _, rfl, ?_, ⟨_, rfl⟩, hW, hsame.mono (by decide) (by decide)⟩
      · show Steps p.tables e below (s₁.setTop (mkF m 0 #[.val (.int u0), .val (.int u1), .val (.int u2), .unset, .unset, .unset, .unset] [])) _
        refine XS.iloadN X0.here hx rfl (hb hby at_0) rfl ?_
        show Steps p.tables e below (s₁.setTop (mkF m 1 #[.val (.int u0), .val (.int u1), .val (.int u2), .unset, .unset, .unset, .unset] [(.int u1)])) _
        refine XS.iconst X0.here hx rfl (hb hby at_1) ?_
        show Steps p.tables e below (s₁.setTop (mkF m 2 #[.val (.int u0), .val (.int u1), .val (.int u2), .unset, .unset, .unset, .unset] [(.int (1 : Int32)), (.int u1)])) _
        refine XS.iand X0.here hx rfl (hb hby at_2) rfl ?_
        show Steps p.tables e below (s₁.setTop (mkF m 3 #[.val (.int u0), .val (.int u1), .val (.int u2), .unset, .unset, .unset, .unset] [(.int (u1 &&& (1 : Int32)))])) _
        refine XS.ifNo X0.here hx rfl (hb hby at_3) rfl ((if0 _ _).trans (feq hc3).1) ?_
        show Steps p.tables e below (s₁.setTop (mkF m 6 #[.val (.int u0), .val (.int u1), .val (.int u2), .unset, .unset, .unset, .unset] [])) _
        refine XS.iloadN X0.here hx rfl (hb hby at_6) rfl ?_
        show Steps p.tables e below (s₁.setTop (mkF m 7 #[.val (.int u0), .val (.int u1), .val (.int u2), .unset, .unset, .unset, .unset] [(.int u0)])) _
        refine XS.bipush X0.here hx rfl (hb hby at_7) ?_
        show Steps p.tables e below (s₁.setTop (mkF m 9 #[.val (.int u0), .val (.int u1), .val (.int u2), .unset, .unset, .unset, .unset] [(.int (15 : Int32)), (.int u0)])) _
        refine XS.iand X0.here hx rfl (hb hby at_9) rfl ?_
        show Steps p.tables e below (s₁.setTop (mkF m 10 #[.val (.int u0), .val (.int u1), .val (.int u2), .unset, .unset, .unset, .unset] [(.int (u0 &&& (15 : Int32)))])) _
        refine XS.goto X0.here hx rfl (pc0 := 10) (pc' := 17) rfl (hb hby at_10) (by decide) (by decide) ?_
        show Steps p.tables e below (s₁.setTop (mkF m 17 #[.val (.int u0), .val (.int u1), .val (.int u2), .unset, .unset, .unset, .unset] [(.int (u0 &&& (15 : Int32)))])) _
        refine XS.istoreN X0.here hx rfl (hb hby at_17) rfl (l' := #[.val (.int u0), .val (.int u1), .val (.int u2), .val (.int (u0 &&& (15 : Int32))), .unset, .unset, .unset]) rfl ?_
        show Steps p.tables e below (s₁.setTop (mkF m 18 #[.val (.int u0), .val (.int u1), .val (.int u2), .val (.int (u0 &&& (15 : Int32))), .unset, .unset, .unset] [])) _
        refine XS.iloadN X0.here hx rfl (hb hby at_18) rfl ?_
        show Steps p.tables e below (s₁.setTop (mkF m 19 #[.val (.int u0), .val (.int u1), .val (.int u2), .val (.int (u0 &&& (15 : Int32))), .unset, .unset, .unset] [(.int (u0 &&& (15 : Int32)))])) _
        refine XS.bipush X0.here hx rfl (hb hby at_19) ?_
        show Steps p.tables e below (s₁.setTop (mkF m 21 #[.val (.int u0), .val (.int u1), .val (.int u2), .val (.int (u0 &&& (15 : Int32))), .unset, .unset, .unset] [(.int (8 : Int32)), (.int (u0 &&& (15 : Int32)))])) _
        refine XS.icmpYes X0.here hx rfl (pc0 := 21) (pc' := 28) rfl (hb hby at_21) rfl (tlt hc21).2.2.1 (by decide) (by decide) ?_
        show Steps p.tables e below (s₁.setTop (mkF m 28 #[.val (.int u0), .val (.int u1), .val (.int u2), .val (.int (u0 &&& (15 : Int32))), .unset, .unset, .unset] [])) _
        refine XS.iconst X0.here hx rfl (hb hby at_28) ?_
        show Steps p.tables e below (s₁.setTop (mkF m 29 #[.val (.int u0), .val (.int u1), .val (.int u2), .val (.int (u0 &&& (15 : Int32))), .unset, .unset, .unset] [(.int (0 : Int32))])) _
        refine XS.istore X0.here hx rfl (hb hby at_29) rfl (l' := #[.val (.int u0), .val (.int u1), .val (.int u2), .val (.int (u0 &&& (15 : Int32))), .val (.int (0 : Int32)), .unset, .unset]) rfl ?_
        show Steps p.tables e below (s₁.setTop (mkF m 31 #[.val (.int u0), .val (.int u1), .val (.int u2), .val (.int (u0 &&& (15 : Int32))), .val (.int (0 : Int32)), .unset, .unset] [])) _
        refine XS.iloadN X0.here hx rfl (hb hby at_31) rfl ?_
        show Steps p.tables e below (s₁.setTop (mkF m 32 #[.val (.int u0), .val (.int u1), .val (.int u2), .val (.int (u0 &&& (15 : Int32))), .val (.int (0 : Int32)), .unset, .unset] [(.int (u0 &&& (15 : Int32)))])) _
        refine st20 _ ?_
        show Steps p.tables e below (T20.setTop (mkF m 35 #[.val (.int u0), .val (.int u1), .val (.int u2), .val (.int (u0 &&& (15 : Int32))), .val (.int (0 : Int32)), .unset, .unset] [(.ref b20)])) _
        refine XS.astore X20.here hx rfl (hb hby at_35) rfl rfl (l' := #[.val (.int u0), .val (.int u1), .val (.int u2), .val (.int (u0 &&& (15 : Int32))), .val (.int (0 : Int32)), .val (.ref b20), .unset]) rfl ?_
        show Steps p.tables e below (T20.setTop (mkF m 37 #[.val (.int u0), .val (.int u1), .val (.int u2), .val (.int (u0 &&& (15 : Int32))), .val (.int (0 : Int32)), .val (.ref b20), .unset] [])) _
        refine XS.aload X20.here hx rfl (hb hby at_37) rfl rfl ?_
        show Steps p.tables e below (T20.setTop (mkF m 39 #[.val (.int u0), .val (.int u1), .val (.int u2), .val (.int (u0 &&& (15 : Int32))), .val (.int (0 : Int32)), .val (.ref b20), .unset] [(.ref b20)])) _
        refine st21.trans ?_
        show Steps p.tables e below (T21.setTop (mkF m 42 #[.val (.int u0), .val (.int u1), .val (.int u2), .val (.int (u0 &&& (15 : Int32))), .val (.int (0 : Int32)), .val (.ref b20), .unset] [(.int (cnt (u0 &&& (15 : Int32))))])) _
        refine XS.iload X21.here hx rfl (hb hby at_42) rfl ?_
        show Steps p.tables e below (T21.setTop (mkF m 44 #[.val (.int u0), .val (.int u1), .val (.int u2), .val (.int (u0 &&& (15 : Int32))), .val (.int (0 : Int32)), .val (.ref b20), .unset] [(.int (0 : Int32)), (.int (cnt (u0 &&& (15 : Int32))))])) _
        refine XS.icmpYes X21.here hx rfl (pc0 := 44) (pc' := 49) rfl (hb hby at_44) rfl (teq (by unfold cnt; simp [hc21])).1 (by decide) (by decide) ?_
        show Steps p.tables e below (T21.setTop (mkF m 49 #[.val (.int u0), .val (.int u1), .val (.int u2), .val (.int (u0 &&& (15 : Int32))), .val (.int (0 : Int32)), .val (.ref b20), .unset] [])) _
        refine XS.aload X21.here hx rfl (hb hby at_49) rfl rfl ?_
        show Steps p.tables e below (T21.setTop (mkF m 51 #[.val (.int u0), .val (.int u1), .val (.int u2), .val (.int (u0 &&& (15 : Int32))), .val (.int (0 : Int32)), .val (.ref b20), .unset] [(.ref b20)])) _
        refine st22.trans ?_
        show Steps p.tables e below (T22.setTop (mkF m 54 #[.val (.int u0), .val (.int u1), .val (.int u2), .val (.int (u0 &&& (15 : Int32))), .val (.int (0 : Int32)), .val (.ref b20), .unset] [(.int (11 : Int32))])) _
        refine XS.bipush X22.here hx rfl (hb hby at_54) ?_
        show Steps p.tables e below (T22.setTop (mkF m 56 #[.val (.int u0), .val (.int u1), .val (.int u2), .val (.int (u0 &&& (15 : Int32))), .val (.int (0 : Int32)), .val (.ref b20), .unset] [(.int (11 : Int32)), (.int (11 : Int32))])) _
        refine XS.icmpYes X22.here hx rfl (pc0 := 56) (pc' := 61) rfl (hb hby at_56) rfl (teq (by decide)).1 (by decide) (by decide) ?_
        show Steps p.tables e below (T22.setTop (mkF m 61 #[.val (.int u0), .val (.int u1), .val (.int u2), .val (.int (u0 &&& (15 : Int32))), .val (.int (0 : Int32)), .val (.ref b20), .unset] [])) _
        refine XS.aload X22.here hx rfl (hb hby at_61) rfl rfl ?_
        show Steps p.tables e below (T22.setTop (mkF m 63 #[.val (.int u0), .val (.int u1), .val (.int u2), .val (.int (u0 &&& (15 : Int32))), .val (.int (0 : Int32)), .val (.ref b20), .unset] [(.ref b20)])) _
        refine st23.trans ?_
        show Steps p.tables e below (T23.setTop (mkF m 66 #[.val (.int u0), .val (.int u1), .val (.int u2), .val (.int (u0 &&& (15 : Int32))), .val (.int (0 : Int32)), .val (.ref b20), .unset] [(.int (0 : Int32))])) _
        refine XS.ifYes X23.here hx rfl (pc0 := 66) (pc' := 71) rfl (hb hby at_66) rfl ((if0 _ _).trans (teq (by decide)).1) (by decide) (by decide) ?_
        show Steps p.tables e below (T23.setTop (mkF m 71 #[.val (.int u0), .val (.int u1), .val (.int u2), .val (.int (u0 &&& (15 : Int32))), .val (.int (0 : Int32)), .val (.ref b20), .unset] [])) _
        refine XS.aload X23.here hx rfl (hb hby at_71) rfl rfl ?_
        show Steps p.tables e below (T23.setTop (mkF m 73 #[.val (.int u0), .val (.int u1), .val (.int u2), .val (.int (u0 &&& (15 : Int32))), .val (.int (0 : Int32)), .val (.ref b20), .unset] [(.ref b20)])) _
        refine st24.trans ?_
        show Steps p.tables e below (T24.setTop (mkF m 76 #[.val (.int u0), .val (.int u1), .val (.int u2), .val (.int (u0 &&& (15 : Int32))), .val (.int (0 : Int32)), .val (.ref b20), .unset] [(.int (0 : Int32))])) _
        refine XS.ifYes X24.here hx rfl (pc0 := 76) (pc' := 81) rfl (hb hby at_76) rfl ((if0 _ _).trans (teq (by decide)).1) (by decide) (by decide) ?_
        show Steps p.tables e below (T24.setTop (mkF m 81 #[.val (.int u0), .val (.int u1), .val (.int u2), .val (.int (u0 &&& (15 : Int32))), .val (.int (0 : Int32)), .val (.ref b20), .unset] [])) _
        refine XS.aload X24.here hx rfl (hb hby at_81) rfl rfl ?_
        show Steps p.tables e below (T24.setTop (mkF m 83 #[.val (.int u0), .val (.int u1), .val (.int u2), .val (.int (u0 &&& (15 : Int32))), .val (.int (0 : Int32)), .val (.ref b20), .unset] [(.ref b20)])) _
        refine XS.iloadN X24.here hx rfl (hb hby at_83) rfl ?_
        show Steps p.tables e below (T24.setTop (mkF m 84 #[.val (.int u0), .val (.int u1), .val (.int u2), .val (.int (u0 &&& (15 : Int32))), .val (.int (0 : Int32)), .val (.ref b20), .unset] [(.int u2), (.ref b20)])) _
        refine st25.trans ?_
        show Steps p.tables e below (T25.setTop (mkF m 87 #[.val (.int u0), .val (.int u1), .val (.int u2), .val (.int (u0 &&& (15 : Int32))), .val (.int (0 : Int32)), .val (.ref b20), .unset] [(.ref b25)])) _
        refine XS.astore X25.here hx rfl (hb hby at_87) rfl rfl (l' := #[.val (.int u0), .val (.int u1), .val (.int u2), .val (.int (u0 &&& (15 : Int32))), .val (.int (0 : Int32)), .val (.ref b20), .val (.ref b25)]) rfl ?_
        show Steps p.tables e below (T25.setTop (mkF m 89 #[.val (.int u0), .val (.int u1), .val (.int u2), .val (.int (u0 &&& (15 : Int32))), .val (.int (0 : Int32)), .val (.ref b20), .val (.ref b25)] [])) _
        refine XS.aload X25.here hx rfl (hb hby at_89) rfl rfl ?_
        show Steps p.tables e below (T25.setTop (mkF m 91 #[.val (.int u0), .val (.int u1), .val (.int u2), .val (.int (u0 &&& (15 : Int32))), .val (.int (0 : Int32)), .val (.ref b20), .val (.ref b25)] [(.ref b25)])) _
        refine st26.trans ?_
        show Steps p.tables e below (T26.setTop (mkF m 94 #[.val (.int u0), .val (.int u1), .val (.int u2), .val (.int (u0 &&& (15 : Int32))), .val (.int (0 : Int32)), .val (.ref b20), .val (.ref b25)] [(.int (cnt (u0 &&& (15 : Int32))))])) _
        refine XS.iload X26.here hx rfl (hb hby at_94) rfl ?_
        show Steps p.tables e below (T26.setTop (mkF m 96 #[.val (.int u0), .val (.int u1), .val (.int u2), .val (.int (u0 &&& (15 : Int32))), .val (.int (0 : Int32)), .val (.ref b20), .val (.ref b25)] [(.int (0 : Int32)), (.int (cnt (u0 &&& (15 : Int32))))])) _
        refine XS.icmpNo X26.here hx rfl (hb hby at_96) rfl (teq (by unfold cnt; simp [hc21])).2 ?_
        show Steps p.tables e below (T26.setTop (mkF m 99 #[.val (.int u0), .val (.int u1), .val (.int u2), .val (.int (u0 &&& (15 : Int32))), .val (.int (0 : Int32)), .val (.ref b20), .val (.ref b25)] [])) _
        refine XS.aload X26.here hx rfl (hb hby at_99) rfl rfl ?_
        show Steps p.tables e below (T26.setTop (mkF m 101 #[.val (.int u0), .val (.int u1), .val (.int u2), .val (.int (u0 &&& (15 : Int32))), .val (.int (0 : Int32)), .val (.ref b20), .val (.ref b25)] [(.ref b25)])) _
        refine st27.trans ?_
        show Steps p.tables e below (T27.setTop (mkF m 104 #[.val (.int u0), .val (.int u1), .val (.int u2), .val (.int (u0 &&& (15 : Int32))), .val (.int (0 : Int32)), .val (.ref b20), .val (.ref b25)] [(.int (cnt (u0 &&& (15 : Int32))))])) _
        refine XS.iload X27.here hx rfl (hb hby at_104) rfl ?_
        show Steps p.tables e below (T27.setTop (mkF m 106 #[.val (.int u0), .val (.int u1), .val (.int u2), .val (.int (u0 &&& (15 : Int32))), .val (.int (0 : Int32)), .val (.ref b20), .val (.ref b25)] [(.int (0 : Int32)), (.int (cnt (u0 &&& (15 : Int32))))])) _
        refine XS.icmpNo X27.here hx rfl (hb hby at_106) rfl (teq (by unfold cnt; simp [hc21])).2 ?_
        show Steps p.tables e below (T27.setTop (mkF m 109 #[.val (.int u0), .val (.int u1), .val (.int u2), .val (.int (u0 &&& (15 : Int32))), .val (.int (0 : Int32)), .val (.ref b20), .val (.ref b25)] [])) _
        refine XS.aload X27.here hx rfl (hb hby at_109) rfl rfl ?_
        show Steps p.tables e below (T27.setTop (mkF m 111 #[.val (.int u0), .val (.int u1), .val (.int u2), .val (.int (u0 &&& (15 : Int32))), .val (.int (0 : Int32)), .val (.ref b20), .val (.ref b25)] [(.ref b25)])) _
        refine st28.trans ?_
        show Steps p.tables e below (T28.setTop (mkF m 114 #[.val (.int u0), .val (.int u1), .val (.int u2), .val (.int (u0 &&& (15 : Int32))), .val (.int (0 : Int32)), .val (.ref b20), .val (.ref b25)] [(.int (1 : Int32))])) _
        refine XS.iconst X28.here hx rfl (hb hby at_114) ?_
        show Steps p.tables e below (T28.setTop (mkF m 115 #[.val (.int u0), .val (.int u1), .val (.int u2), .val (.int (u0 &&& (15 : Int32))), .val (.int (0 : Int32)), .val (.ref b20), .val (.ref b25)] [(.int (1 : Int32)), (.int (1 : Int32))])) _
        refine XS.icmpNo X28.here hx rfl (hb hby at_115) rfl (teq (by decide)).2 ?_
        show Steps p.tables e below (T28.setTop (mkF m 118 #[.val (.int u0), .val (.int u1), .val (.int u2), .val (.int (u0 &&& (15 : Int32))), .val (.int (0 : Int32)), .val (.ref b20), .val (.ref b25)] [])) _
        refine XS.iconst X28.here hx rfl (hb hby at_118) ?_
        show Steps p.tables e below (T28.setTop (mkF m 119 #[.val (.int u0), .val (.int u1), .val (.int u2), .val (.int (u0 &&& (15 : Int32))), .val (.int (0 : Int32)), .val (.ref b20), .val (.ref b25)] [(.int (1 : Int32))])) _
        refine XS.goto X28.here hx rfl (pc0 := 119) (pc' := 123) rfl (hb hby at_119) (by decide) (by decide) ?_
        show Steps p.tables e below (T28.setTop (mkF m 123 #[.val (.int u0), .val (.int u1), .val (.int u2), .val (.int (u0 &&& (15 : Int32))), .val (.int (0 : Int32)), .val (.ref b20), .val (.ref b25)] [(.int (1 : Int32))])) _
        exact retN X28 hx (t := .boolean) Bd.returns (by simp) (hb hby at_123) hr
      · show Q0 Z u0 u1 u2 h0 n0 _ T28.heap _
        rw [e28]
        exact ⟨rfl, N28⟩
    · obtain ⟨_, _, ⟨T29, L29, k29, n29⟩, -, X29, ⟨Lc29, hQ29, l29, y29, z29⟩, st29⟩ := Jvm.LawKit.callS X0 hx (y := (⟨"com/example/rehydra/rehydra/KeySlots", "builtWithNoValues", "(I)Lcom/example/rehydra/rehydra/KeySlots;"⟩ : MethodName)) hown (mvT hZ (hw _ (List.mem_of_getElem? (i := 0) rfl))) (mvT hZ (hw _ (List.mem_of_getElem? (i := 1) rfl))) (mvT hZ (hw _ (List.mem_of_getElem? (i := 2) rfl))) (mvT hZ (hw _ (List.mem_of_getElem? (i := 3) rfl))) (by decide) (backOf (W := 0) (rm1 l Z a0 hw [] (u0 &&& (15 : Int32)) h0 n0 Z0 ) hZ (hw _ (List.mem_of_getElem? (i := 3) rfl)) (hw _ (List.mem_of_getElem? (i := 2) rfl)) (by decide) (by decide)) (g := (mkF m 32 #[.val (.int u0), .val (.int u1), .val (.int u2), .val (.int (u0 &&& (15 : Int32))), .val (.int (u0 &&& (15 : Int32))), .unset, .unset] [(.int (u0 &&& (15 : Int32)))])) rfl (by rw [hml]; rfl) (argsL := [(.int (u0 &&& (15 : Int32)))]) (rest := []) (lenOf pd_4 rfl) rfl (by show 2 * 0 + _ ≤ _; exact Nat.le_of_eq rfl) (hb hby at_32) (fun _ _ => ⟨rfl, e0, (by decide : 0 + 1 ≤ _), (by decide : 0 + 8 ≤ _)⟩)
      dsimp only [Pt.U, Pt.locs, Pt.cells, Pt.slots] at X29 l29 y29 z29 st29 hQ29
      subst l29 y29 z29
      obtain ⟨hv29, N29q, K29, A29, F29_count, F29_capacity, F29_loadFactor, F29_large, F29_heads⟩ := hQ29
      obtain ⟨b29, g29⟩ : ∃ z, z = h0.size := ⟨_, rfl⟩
      rw [← g29] at hv29 A29 F29_count F29_capacity F29_loadFactor F29_large F29_heads
      subst hv29
      have g_b29 : n0 ≤ b29 := Nat.le_trans Z0 (Nat.le_of_eq g29.symm)
      have sz_b29 : h0.size ≤ b29 := Nat.le_trans (Keep.refl h0 []).1 (Nat.le_of_eq g29.symm)
      have N29 := Fr.app N0 N29q
      have Z29 : n0 ≤ T29.heap.size := Nat.le_trans Z0 K29.1
      have KK29 := (Keep.refl h0 []).trans K29 all0
      obtain ⟨cq30, kq30, q30a, q30b, q30c⟩ := isOf hZ rfl A29
      obtain ⟨_, _, ⟨T30, L30, k30, n30⟩, -, X30, ⟨Lc30, hQ30, l30, y30, z30⟩, st30⟩ := X29.virtualBack hx (y := (⟨"com/example/rehydra/rehydra/KeySlots", "count", "()I"⟩ : MethodName)) (z := (⟨"com/example/rehydra/rehydra/KeySlots", "count", "()I"⟩ : MethodName)) hown (mvT hZ (hw _ (List.mem_of_getElem? (i := 19) rfl))) (mvT hZ (hw _ (List.mem_of_getElem? (i := 20) rfl))) (notFace_of_selects (args := #[]) (mvT hZ (hw _ (List.mem_of_getElem? (i := 22) rfl)))) (mvT hZ (hw _ (List.mem_of_getElem? (i := 22) rfl))) (mvT hZ (hw _ (List.mem_of_getElem? (i := 21) rfl))) (by decide) (backOf (W := 0) (rm4 l Z a0 hw [] b29 (cnt (u0 &&& (15 : Int32))) T29.heap n0 Z29 F29_count) hZ (hw _ (List.mem_of_getElem? (i := 23) rfl)) (hw _ (List.mem_of_getElem? (i := 2) rfl)) (by decide) (by decide)) q30a q30c (g := (mkF m 39 #[.val (.int u0), .val (.int u1), .val (.int u2), .val (.int (u0 &&& (15 : Int32))), .val (.int (u0 &&& (15 : Int32))), .val (.ref b29), .unset] [(.ref b29)])) rfl (by rw [hml]; rfl) (Steps.refl _) (argsL := []) (rest := []) (lenOf pd_0 rfl) rfl (by show 2 * 0 + _ ≤ _; exact Nat.le_of_eq rfl) (hb hby at_39) (fun _ _ => ⟨rfl, rfl, (by decide : 1 + 0 ≤ _), (by decide : 8 + 0 ≤ _)⟩)
      dsimp only [Pt.U, Pt.locs, Pt.cells, Pt.slots] at X30 l30 y30 z30 st30 hQ30
      subst l30 y30 z30
      obtain ⟨rfl, N30q, e30⟩ := hQ30
      have N30 := Fr.app N29 N30q
      obtain ⟨cq31, kq31, q31a, q31b, q31c⟩ := isOf hZ e30 A29
      obtain ⟨_, _, ⟨T31, L31, k31, n31⟩, -, X31, ⟨Lc31, hQ31, l31, y31, z31⟩, st31⟩ := X30.virtualBack hx (y := (⟨"com/example/rehydra/rehydra/KeySlots", "capacity", "()I"⟩ : MethodName)) (z := (⟨"com/example/rehydra/rehydra/KeySlots", "capacity", "()I"⟩ : MethodName)) hown (mvT hZ (hw _ (List.mem_of_getElem? (i := 24) rfl))) (mvT hZ (hw _ (List.mem_of_getElem? (i := 25) rfl))) (notFace_of_selects (args := #[]) (mvT hZ (hw _ (List.mem_of_getElem? (i := 27) rfl)))) (mvT hZ (hw _ (List.mem_of_getElem? (i := 27) rfl))) (mvT hZ (hw _ (List.mem_of_getElem? (i := 26) rfl))) (by decide) (backOf (W := 0) (rm5 l Z a0 hw [] b29 (11 : Int32) T29.heap n0 Z29 F29_capacity) hZ (hw _ (List.mem_of_getElem? (i := 28) rfl)) (hw _ (List.mem_of_getElem? (i := 2) rfl)) (by decide) (by decide)) q31a q31c (g := (mkF m 51 #[.val (.int u0), .val (.int u1), .val (.int u2), .val (.int (u0 &&& (15 : Int32))), .val (.int (u0 &&& (15 : Int32))), .val (.ref b29), .unset] [(.ref b29)])) rfl (by rw [hml]; rfl) (Steps.refl _) (argsL := []) (rest := []) (lenOf pd_0 rfl) rfl (by show 2 * 0 + _ ≤ _; exact Nat.le_of_eq rfl) (hb hby at_51) (fun _ _ => ⟨rfl, e30, (by decide : 1 + 0 ≤ _), (by decide : 8 + 0 ≤ _)⟩)
      dsimp only [Pt.U, Pt.locs, Pt.cells, Pt.slots] at X31 l31 y31 z31 st31 hQ31
      subst l31 y31 z31
      obtain ⟨rfl, N31q, e31⟩ := hQ31
      have N31 := Fr.app N30 N31q
      obtain ⟨cq32, kq32, q32a, q32b, q32c⟩ := isOf hZ e31 A29
      obtain ⟨_, _, ⟨T32, L32, k32, n32⟩, -, X32, ⟨Lc32, hQ32, l32, y32, z32⟩, st32⟩ := X31.virtualBack hx (y := (⟨"com/example/rehydra/rehydra/KeySlots", "worthKeeping", "()Z"⟩ : MethodName)) (z := (⟨"com/example/rehydra/rehydra/KeySlots", "worthKeeping", "()Z"⟩ : MethodName)) hown (mvT hZ (hw _ (List.mem_of_getElem? (i := 29) rfl))) (mvT hZ (hw _ (List.mem_of_getElem? (i := 30) rfl))) (notFace_of_selects (args := #[]) (mvT hZ (hw _ (List.mem_of_getElem? (i := 32) rfl)))) (mvT hZ (hw _ (List.mem_of_getElem? (i := 32) rfl))) (mvT hZ (hw _ (List.mem_of_getElem? (i := 31) rfl))) (by decide) (backOf (W := 0) (rm6 l Z a0 hw [] b29 T29.heap n0 Z29 F29_capacity F29_loadFactor F29_large) hZ (hw _ (List.mem_of_getElem? (i := 33) rfl)) (hw _ (List.mem_of_getElem? (i := 2) rfl)) (by decide) (by decide)) q32a q32c (g := (mkF m 63 #[.val (.int u0), .val (.int u1), .val (.int u2), .val (.int (u0 &&& (15 : Int32))), .val (.int (u0 &&& (15 : Int32))), .val (.ref b29), .unset] [(.ref b29)])) rfl (by rw [hml]; rfl) (Steps.refl _) (argsL := []) (rest := []) (lenOf pd_2 rfl) rfl (by show 2 * 0 + _ ≤ _; exact Nat.le_of_eq rfl) (hb hby at_63) (fun _ _ => ⟨rfl, e31, (by decide : 1 + 0 ≤ _), (by decide : 8 + 0 ≤ _)⟩)
      dsimp only [Pt.U, Pt.locs, Pt.cells, Pt.slots] at X32 l32 y32 z32 st32 hQ32
      subst l32 y32 z32
      obtain ⟨rfl, N32q, e32⟩ := hQ32
      have N32 := Fr.app N31 N32q
      obtain ⟨cq33, kq33, q33a, q33b, q33c⟩ := isOf hZ e32 A29
      obtain ⟨_, _, ⟨T33, L33, k33, n33⟩, -, X33, ⟨Lc33, hQ33, l33, y33, z33⟩, st33⟩ := X32.virtualBack hx (y := (⟨"com/example/rehydra/rehydra/KeySlots", "crowded", "()Z"⟩ : MethodName)) (z := (⟨"com/example/rehydra/rehydra/KeySlots", "crowded", "()Z"⟩ : MethodName)) hown (mvT hZ (hw _ (List.mem_of_getElem? (i := 36) rfl))) (mvT hZ (hw _ (List.mem_of_getElem? (i := 37) rfl))) (notFace_of_selects (args := #[]) (mvT hZ (hw _ (List.mem_of_getElem? (i := 39) rfl)))) (mvT hZ (hw _ (List.mem_of_getElem? (i := 39) rfl))) (mvT hZ (hw _ (List.mem_of_getElem? (i := 38) rfl))) (by decide) (backOf (W := 0) (rm7 l Z a0 hw [] b29 (cnt (u0 &&& (15 : Int32))) T29.heap n0 Z29 F29_heads F29_count (cnt_le _)) hZ (hw _ (List.mem_of_getElem? (i := 40) rfl)) (hw _ (List.mem_of_getElem? (i := 2) rfl)) (by decide) (by decide)) q33a q33c (g := (mkF m 73 #[.val (.int u0), .val (.int u1), .val (.int u2), .val (.int (u0 &&& (15 : Int32))), .val (.int (u0 &&& (15 : Int32))), .val (.ref b29), .unset] [(.ref b29)])) rfl (by rw [hml]; rfl) (Steps.refl _) (argsL := []) (rest := []) (lenOf pd_2 rfl) rfl (by show 2 * 0 + _ ≤ _; exact Nat.le_of_eq rfl) (hb hby at_73) (fun _ _ => ⟨rfl, e32, (by decide : 1 + 0 ≤ _), (by decide : 8 + 0 ≤ _)⟩)
      dsimp only [Pt.U, Pt.locs, Pt.cells, Pt.slots] at X33 l33 y33 z33 st33 hQ33
      subst l33 y33 z33
      obtain ⟨rfl, N33q, e33⟩ := hQ33
      have N33 := Fr.app N32 N33q
      obtain ⟨cq34, kq34, q34a, q34b, q34c⟩ := isOf hZ e33 A29
      obtain ⟨_, _, ⟨T34, L34, k34, n34⟩, -, X34, ⟨Lc34, hQ34, l34, y34, z34⟩, st34⟩ := X33.virtualBack hx (y := (⟨"com/example/rehydra/rehydra/KeySlots", "walk", "(I)Lcom/example/rehydra/rehydra/KeySlots$Walk;"⟩ : MethodName)) (z := (⟨"com/example/rehydra/rehydra/KeySlots", "walk", "(I)Lcom/example/rehydra/rehydra/KeySlots$Walk;"⟩ : MethodName)) hown (mvT hZ (hw _ (List.mem_of_getElem? (i := 43) rfl))) (mvT hZ (hw _ (List.mem_of_getElem? (i := 44) rfl))) (notFace_of_selects (args := #[]) (mvT hZ (hw _ (List.mem_of_getElem? (i := 46) rfl)))) (mvT hZ (hw _ (List.mem_of_getElem? (i := 46) rfl))) (mvT hZ (hw _ (List.mem_of_getElem? (i := 45) rfl))) (by decide) (backOf (W := 0) (rm8 l Z a0 hw [] b29 u2 (cnt (u0 &&& (15 : Int32))) T29.heap n0 Z29 F29_heads F29_count F29_large) hZ (hw _ (List.mem_of_getElem? (i := 47) rfl)) (hw _ (List.mem_of_getElem? (i := 2) rfl)) (by decide) (by decide)) q34a q34c (g := (mkF m 84 #[.val (.int u0), .val (.int u1), .val (.int u2), .val (.int (u0 &&& (15 : Int32))), .val (.int (u0 &&& (15 : Int32))), .val (.ref b29), .unset] [(.int u2), (.ref b29)])) rfl (by rw [hml]; rfl) (Steps.refl _) (argsL := [(.int u2)]) (rest := []) (lenOf pd_3 rfl) rfl (by show 2 * 0 + _ ≤ _; exact Nat.le_of_eq rfl) (hb hby at_84) (fun _ _ => ⟨rfl, e33, (by decide : 1 + 1 ≤ _), (by decide : 8 + 3 ≤ _)⟩)
      dsimp only [Pt.U, Pt.locs, Pt.cells, Pt.slots] at X34 l34 y34 z34 st34 hQ34
      subst l34 y34 z34
      obtain ⟨hv34, N34q, K34, A34, F34_keys, F34_sameHash, F34_largestReach⟩ := hQ34
      obtain ⟨b34, g34⟩ : ∃ z, z = T29.heap.size := ⟨_, rfl⟩
      rw [← g34] at hv34 A34 F34_keys F34_sameHash F34_largestReach
      subst hv34
      have g_b34 : n0 ≤ b34 := Nat.le_trans Z29 (Nat.le_of_eq g34.symm)
      have sz_b34 : h0.size ≤ b34 := Nat.le_trans KK29.1 (Nat.le_of_eq g34.symm)
      have N34 := Fr.app N33 N34q
      have Z34 : n0 ≤ T34.heap.size := Nat.le_trans Z29 K34.1
      have KK34 := KK29.trans K34 all0
      obtain ⟨cq35, kq35, q35a, q35b, q35c⟩ := isOf hZ rfl A34
      obtain ⟨_, _, ⟨T35, L35, k35, n35⟩, -, X35, ⟨Lc35, hQ35, l35, y35, z35⟩, st35⟩ := X34.virtualBack hx (y := (⟨"com/example/rehydra/rehydra/KeySlots$Walk", "keys", "()I"⟩ : MethodName)) (z := (⟨"com/example/rehydra/rehydra/KeySlots$Walk", "keys", "()I"⟩ : MethodName)) hown (mvT hZ (hw _ (List.mem_of_getElem? (i := 66) rfl))) (mvT hZ (hw _ (List.mem_of_getElem? (i := 67) rfl))) (notFace_of_selects (args := #[]) (mvT hZ (hw _ (List.mem_of_getElem? (i := 69) rfl)))) (mvT hZ (hw _ (List.mem_of_getElem? (i := 69) rfl))) (mvT hZ (hw _ (List.mem_of_getElem? (i := 68) rfl))) (by decide) (backOf (W := 0) (rm11 l Z a0 hw [] b34 (cnt (u0 &&& (15 : Int32))) T34.heap n0 Z34 F34_keys) hZ (hw _ (List.mem_of_getElem? (i := 70) rfl)) (hw _ (List.mem_of_getElem? (i := 50) rfl)) (by decide) (by decide)) q35a q35c (g := (mkF m 91 #[.val (.int u0), .val (.int u1), .val (.int u2), .val (.int (u0 &&& (15 : Int32))), .val (.int (u0 &&& (15 : Int32))), .val (.ref b29), .val (.ref b34)] [(.ref b34)])) rfl (by rw [hml]; rfl) (Steps.refl _) (argsL := []) (rest := []) (lenOf pd_0 rfl) rfl (by show 2 * 0 + _ ≤ _; exact Nat.le_of_eq rfl) (hb hby at_91) (fun _ _ => ⟨rfl, rfl, (by decide : 2 + 0 ≤ _), (by decide : 11 + 0 ≤ _)⟩)
      dsimp only [Pt.U, Pt.locs, Pt.cells, Pt.slots] at X35 l35 y35 z35 st35 hQ35
      subst l35 y35 z35
      obtain ⟨rfl, N35q, e35⟩ := hQ35
      have N35 := Fr.app N34 N35q
      obtain ⟨cq36, kq36, q36a, q36b, q36c⟩ := isOf hZ e35 A34
      obtain ⟨_, _, ⟨T36, L36, k36, n36⟩, -, X36, ⟨Lc36, hQ36, l36, y36, z36⟩, st36⟩ := X35.virtualBack hx (y := (⟨"com/example/rehydra/rehydra/KeySlots$Walk", "sameHash", "()I"⟩ : MethodName)) (z := (⟨"com/example/rehydra/rehydra/KeySlots$Walk", "sameHash", "()I"⟩ : MethodName)) hown (mvT hZ (hw _ (List.mem_of_getElem? (i := 71) rfl))) (mvT hZ (hw _ (List.mem_of_getElem? (i := 72) rfl))) (notFace_of_selects (args := #[]) (mvT hZ (hw _ (List.mem_of_getElem? (i := 74) rfl)))) (mvT hZ (hw _ (List.mem_of_getElem? (i := 74) rfl))) (mvT hZ (hw _ (List.mem_of_getElem? (i := 73) rfl))) (by decide) (backOf (W := 0) (rm12 l Z a0 hw [] b34 (cnt (u0 &&& (15 : Int32))) T34.heap n0 Z34 F34_sameHash) hZ (hw _ (List.mem_of_getElem? (i := 75) rfl)) (hw _ (List.mem_of_getElem? (i := 50) rfl)) (by decide) (by decide)) q36a q36c (g := (mkF m 101 #[.val (.int u0), .val (.int u1), .val (.int u2), .val (.int (u0 &&& (15 : Int32))), .val (.int (u0 &&& (15 : Int32))), .val (.ref b29), .val (.ref b34)] [(.ref b34)])) rfl (by rw [hml]; rfl) (Steps.refl _) (argsL := []) (rest := []) (lenOf pd_0 rfl) rfl (by show 2 * 0 + _ ≤ _; exact Nat.le_of_eq rfl) (hb hby at_101) (fun _ _ => ⟨rfl, e35, (by decide : 2 + 0 ≤ _), (by decide : 11 + 0 ≤ _)⟩)
      dsimp only [Pt.U, Pt.locs, Pt.cells, Pt.slots] at X36 l36 y36 z36 st36 hQ36
      subst l36 y36 z36
      obtain ⟨rfl, N36q, e36⟩ := hQ36
      have N36 := Fr.app N35 N36q
      obtain ⟨cq37, kq37, q37a, q37b, q37c⟩ := isOf hZ e36 A34
      obtain ⟨_, _, ⟨T37, L37, k37, n37⟩, -, X37, ⟨Lc37, hQ37, l37, y37, z37⟩, st37⟩ := X36.virtualBack hx (y := (⟨"com/example/rehydra/rehydra/KeySlots$Walk", "largestReach", "()I"⟩ : MethodName)) (z := (⟨"com/example/rehydra/rehydra/KeySlots$Walk", "largestReach", "()I"⟩ : MethodName)) hown (mvT hZ (hw _ (List.mem_of_getElem? (i := 76) rfl))) (mvT hZ (hw _ (List.mem_of_getElem? (i := 77) rfl))) (notFace_of_selects (args := #[]) (mvT hZ (hw _ (List.mem_of_getElem? (i := 79) rfl)))) (mvT hZ (hw _ (List.mem_of_getElem? (i := 79) rfl))) (mvT hZ (hw _ (List.mem_of_getElem? (i := 78) rfl))) (by decide) (backOf (W := 0) (rm13 l Z a0 hw [] b34 (1 : Int32) T34.heap n0 Z34 F34_largestReach) hZ (hw _ (List.mem_of_getElem? (i := 80) rfl)) (hw _ (List.mem_of_getElem? (i := 50) rfl)) (by decide) (by decide)) q37a q37c (g := (mkF m 111 #[.val (.int u0), .val (.int u1), .val (.int u2), .val (.int (u0 &&& (15 : Int32))), .val (.int (u0 &&& (15 : Int32))), .val (.ref b29), .val (.ref b34)] [(.ref b34)])) rfl (by rw [hml]; rfl) (Steps.refl _) (argsL := []) (rest := []) (lenOf pd_0 rfl) rfl (by show 2 * 0 + _ ≤ _; exact Nat.le_of_eq rfl) (hb hby at_111) (fun _ _ => ⟨rfl, e36, (by decide : 2 + 0 ≤ _), (by decide : 11 + 0 ≤ _)⟩)
      dsimp only [Pt.U, Pt.locs, Pt.cells, Pt.slots] at X37 l37 y37 z37 st37 hQ37
      subst l37 y37 z37
      obtain ⟨rfl, N37q, e37⟩ := hQ37
      have N37 := Fr.app N36 N37q
      obtain ⟨fs, hr, hrun, hended, hW, hsame⟩ := X37.leave (v := some (.int (1 : Int32))) (fun h => by rw [Bd.returns] at h; cases h)
      refine ⟨_, _, pre0 _ ?_, hrun, hended, _, _, rfl, ?_, ⟨_, rfl⟩, hW, hsame.mono (by decide) (by decide)⟩
      · show Steps p.tables e below (s₁.setTop (mkF m 0 #[.val (.int u0), .val (.int u1), .val (.int u2), .unset, .unset, .unset, .unset] [])) _
        refine XS.iloadN X0.here hx rfl (hb hby at_0) rfl ?_
        show Steps p.tables e below (s₁.setTop (mkF m 1 #[.val (.int u0), .val (.int u1), .val (.int u2), .unset, .unset, .unset, .unset] [(.int u1)])) _
        refine XS.iconst X0.here hx rfl (hb hby at_1) ?_
        show Steps p.tables e below (s₁.setTop (mkF m 2 #[.val (.int u0), .val (.int u1), .val (.int u2), .unset, .unset, .unset, .unset] [(.int (1 : Int32)), (.int u1)])) _
        refine XS.iand X0.here hx rfl (hb hby at_2) rfl ?_
        show Steps p.tables e below (s₁.setTop (mkF m 3 #[.val (.int u0), .val (.int u1), .val (.int u2), .unset, .unset, .unset, .unset] [(.int (u1 &&& (1 : Int32)))])) _
        refine XS.ifNo X0.here hx rfl (hb hby at_3) rfl ((if0 _ _).trans (feq hc3).1) ?_
        show Steps p.tables e below (s₁.setTop (mkF m 6 #[.val (.int u0), .val (.int u1), .val (.int u2), .unset, .unset, .unset, .unset] [])) _
        refine XS.iloadN X0.here hx rfl (hb hby at_6) rfl ?_
        show Steps p.tables e below (s₁.setTop (mkF m 7 #[.val (.int u0), .val (.int u1), .val (.int u2), .unset, .unset, .unset, .unset] [(.int u0)])) _
        refine XS.bipush X0.here hx rfl (hb hby at_7) ?_
        show Steps p.tables e below (s₁.setTop (mkF m 9 #[.val (.int u0), .val (.int u1), .val (.int u2), .unset, .unset, .unset, .unset] [(.int (15 : Int32)), (.int u0)])) _
        refine XS.iand X0.here hx rfl (hb hby at_9) rfl ?_
        show Steps p.tables e below (s₁.setTop (mkF m 10 #[.val (.int u0), .val (.int u1), .val (.int u2), .unset, .unset, .unset, .unset] [(.int (u0 &&& (15 : Int32)))])) _
        refine XS.goto X0.here hx rfl (pc0 := 10) (pc' := 17) rfl (hb hby at_10) (by decide) (by decide) ?_
        show Steps p.tables e below (s₁.setTop (mkF m 17 #[.val (.int u0), .val (.int u1), .val (.int u2), .unset, .unset, .unset, .unset] [(.int (u0 &&& (15 : Int32)))])) _
        refine XS.istoreN X0.here hx rfl (hb hby at_17) rfl (l' := #[.val (.int u0), .val (.int u1), .val (.int u2), .val (.int (u0 &&& (15 : Int32))), .unset, .unset, .unset]) rfl ?_
        show Steps p.tables e below (s₁.setTop (mkF m 18 #[.val (.int u0), .val (.int u1), .val (.int u2), .val (.int (u0 &&& (15 : Int32))), .unset, .unset, .unset] [])) _
        refine XS.iloadN X0.here hx rfl (hb hby at_18) rfl ?_
        show Steps p.tables e below (s₁.setTop (mkF m 19 #[.val (.int u0), .val (.int u1), .val (.int u2), .val (.int (u0 &&& (15 : Int32))), .unset, .unset, .unset] [(.int (u0 &&& (15 : Int32)))])) _
        refine XS.bipush X0.here hx rfl (hb hby at_19) ?_
        show Steps p.tables e below (s₁.setTop (mkF m 21 #[.val (.int u0), .val (.int u1), .val (.int u2), .val (.int (u0 &&& (15 : Int32))), .unset, .unset, .unset] [(.int (8 : Int32)), (.int (u0 &&& (15 : Int32)))])) _
        refine XS.icmpNo X0.here hx rfl (hb hby at_21) rfl (flt hc21).2.2.1 ?_
        show Steps p.tables e below (s₁.setTop (mkF m 24 #[.val (.int u0), .val (.int u1), .val (.int u2), .val (.int (u0 &&& (15 : Int32))), .unset, .unset, .unset] [])) _
        refine XS.iloadN X0.here hx rfl (hb hby at_24) rfl ?_
        show Steps p.tables e below (s₁.setTop (mkF m 25 #[.val (.int u0), .val (.int u1), .val (.int u2), .val (.int (u0 &&& (15 : Int32))), .unset, .unset, .unset] [(.int (u0 &&& (15 : Int32)))])) _
        refine XS.goto X0.here hx rfl (pc0 := 25) (pc' := 29) rfl (hb hby at_25) (by decide) (by decide) ?_
        show Steps p.tables e below (s₁.setTop (mkF m 29 #[.val (.int u0), .val (.int u1), .val (.int u2), .val (.int (u0 &&& (15 : Int32))), .unset, .unset, .unset] [(.int (u0 &&& (15 : Int32)))])) _
        refine XS.istore X0.here hx rfl (hb hby at_29) rfl (l' := #[.val (.int u0), .val (.int u1), .val (.int u2), .val (.int (u0 &&& (15 : Int32))), .val (.int (u0 &&& (15 : Int32))), .unset, .unset]) rfl ?_
        show Steps p.tables e below (s₁.setTop (mkF m 31 #[.val (.int u0), .val (.int u1), .val (.int u2), .val (.int (u0 &&& (15 : Int32))), .val (.int (u0 &&& (15 : Int32))), .unset, .unset] [])) _
        refine XS.iloadN X0.here hx rfl (hb hby at_31) rfl ?_
        show Steps p.tables e below (s₁.setTop (mkF m 32 #[.val (.int u0), .val (.int u1), .val (.int u2), .val (.int (u0 &&& (15 : Int32))), .val (.int (u0 &&& (15 : Int32))), .unset, .unset] [(.int (u0 &&& (15 : Int32)))])) _
        refine st29 _ ?_
        show Steps p.tables e below (T29.setTop (mkF m 35 #[.val (.int u0), .val (.int u1), .val (.int u2), .val (.int (u0 &&& (15 : Int32))), .val (.int (u0 &&& (15 : Int32))), .unset, .unset] [(.ref b29)])) _
        refine XS.astore X29.here hx rfl (hb hby at_35) rfl rfl (l' := #[.val (.int u0), .val (.int u1), .val (.int u2), .val (.int (u0 &&& (15 : Int32))), .val (.int (u0 &&& (15 : Int32))), .val (.ref b29), .unset]) rfl ?_
        show Steps p.tables e below (T29.setTop (mkF m 37 #[.val (.int u0), .val (.int u1), .val (.int u2), .val (.int (u0 &&& (15 : Int32))), .val (.int (u0 &&& (15 : Int32))), .val (.ref b29), .unset] [])) _
        refine XS.aload X29.here hx rfl (hb hby at_37) rfl rfl ?_
        show Steps p.tables e below (T29.setTop (mkF m 39 #[.val (.int u0), .val (.int u1), .val (.int u2), .val (.int (u0 &&& (15 : Int32))), .val (.int (u0 &&& (15 : Int32))), .val (.ref b29), .unset] [(.ref b29)])) _
        refine st30.trans ?_
        show Steps p.tables e below (T30.setTop (mkF m 42 #[.val (.int u0), .val (.int u1), .val (.int u2), .val (.int (u0 &&& (15 : Int32))), .val (.int (u0 &&& (15 : Int32))), .val (.ref b29), .unset] [(.int (cnt (u0 &&& (15 : Int32))))])) _
        refine XS.iload X30.here hx rfl (hb hby at_42) rfl ?_
        show Steps p.tables e below (T30.setTop (mkF m 44 #[.val (.int u0), .val (.int u1), .val (.int u2), .val (.int (u0 &&& (15 : Int32))), .val (.int (u0 &&& (15 : Int32))), .val (.ref b29), .unset] [(.int (u0 &&& (15 : Int32))), (.int (cnt (u0 &&& (15 : Int32))))])) _
        refine XS.icmpYes X30.here hx rfl (pc0 := 44) (pc' := 49) rfl (hb hby at_44) rfl (teq (by unfold cnt; simp [hc21])).1 (by decide) (by decide) ?_
        show Steps p.tables e below (T30.setTop (mkF m 49 #[.val (.int u0), .val (.int u1), .val (.int u2), .val (.int (u0 &&& (15 : Int32))), .val (.int (u0 &&& (15 : Int32))), .val (.ref b29), .unset] [])) _
        refine XS.aload X30.here hx rfl (hb hby at_49) rfl rfl ?_
        show Steps p.tables e below (T30.setTop (mkF m 51 #[.val (.int u0), .val (.int u1), .val (.int u2), .val (.int (u0 &&& (15 : Int32))), .val (.int (u0 &&& (15 : Int32))), .val (.ref b29), .unset] [(.ref b29)])) _
        refine st31.trans ?_
        show Steps p.tables e below (T31.setTop (mkF m 54 #[.val (.int u0), .val (.int u1), .val (.int u2), .val (.int (u0 &&& (15 : Int32))), .val (.int (u0 &&& (15 : Int32))), .val (.ref b29), .unset] [(.int (11 : Int32))])) _
        refine XS.bipush X31.here hx rfl (hb hby at_54) ?_
        show Steps p.tables e below (T31.setTop (mkF m 56 #[.val (.int u0), .val (.int u1), .val (.int u2), .val (.int (u0 &&& (15 : Int32))), .val (.int (u0 &&& (15 : Int32))), .val (.ref b29), .unset] [(.int (11 : Int32)), (.int (11 : Int32))])) _
        refine XS.icmpYes X31.here hx rfl (pc0 := 56) (pc' := 61) rfl (hb hby at_56) rfl (teq (by decide)).1 (by decide) (by decide) ?_
        show Steps p.tables e below (T31.setTop (mkF m 61 #[.val (.int u0), .val (.int u1), .val (.int u2), .val (.int (u0 &&& (15 : Int32))), .val (.int (u0 &&& (15 : Int32))), .val (.ref b29), .unset] [])) _
        refine XS.aload X31.here hx rfl (hb hby at_61) rfl rfl ?_
        show Steps p.tables e below (T31.setTop (mkF m 63 #[.val (.int u0), .val (.int u1), .val (.int u2), .val (.int (u0 &&& (15 : Int32))), .val (.int (u0 &&& (15 : Int32))), .val (.ref b29), .unset] [(.ref b29)])) _
        refine st32.trans ?_
        show Steps p.tables e below (T32.setTop (mkF m 66 #[.val (.int u0), .val (.int u1), .val (.int u2), .val (.int (u0 &&& (15 : Int32))), .val (.int (u0 &&& (15 : Int32))), .val (.ref b29), .unset] [(.int (0 : Int32))])) _
        refine XS.ifYes X32.here hx rfl (pc0 := 66) (pc' := 71) rfl (hb hby at_66) rfl ((if0 _ _).trans (teq (by decide)).1) (by decide) (by decide) ?_
        show Steps p.tables e below (T32.setTop (mkF m 71 #[.val (.int u0), .val (.int u1), .val (.int u2), .val (.int (u0 &&& (15 : Int32))), .val (.int (u0 &&& (15 : Int32))), .val (.ref b29), .unset] [])) _
        refine XS.aload X32.here hx rfl (hb hby at_71) rfl rfl ?_
        show Steps p.tables e below (T32.setTop (mkF m 73 #[.val (.int u0), .val (.int u1), .val (.int u2), .val (.int (u0 &&& (15 : Int32))), .val (.int (u0 &&& (15 : Int32))), .val (.ref b29), .unset] [(.ref b29)])) _
        refine st33.trans ?_
        show Steps p.tables e below (T33.setTop (mkF m 76 #[.val (.int u0), .val (.int u1), .val (.int u2), .val (.int (u0 &&& (15 : Int32))), .val (.int (u0 &&& (15 : Int32))), .val (.ref b29), .unset] [(.int (0 : Int32))])) _
        refine XS.ifYes X33.here hx rfl (pc0 := 76) (pc' := 81) rfl (hb hby at_76) rfl ((if0 _ _).trans (teq (by decide)).1) (by decide) (by decide) ?_
        show Steps p.tables e below (T33.setTop (mkF m 81 #[.val (.int u0), .val (.int u1), .val (.int u2), .val (.int (u0 &&& (15 : Int32))), .val (.int (u0 &&& (15 : Int32))), .val (.ref b29), .unset] [])) _
        refine XS.aload X33.here hx rfl (hb hby at_81) rfl rfl ?_
        show Steps p.tables e below (T33.setTop (mkF m 83 #[.val (.int u0), .val (.int u1), .val (.int u2), .val (.int (u0 &&& (15 : Int32))), .val (.int (u0 &&& (15 : Int32))), .val (.ref b29), .unset] [(.ref b29)])) _
        refine XS.iloadN X33.here hx rfl (hb hby at_83) rfl ?_
        show Steps p.tables e below (T33.setTop (mkF m 84 #[.val (.int u0), .val (.int u1), .val (.int u2), .val (.int (u0 &&& (15 : Int32))), .val (.int (u0 &&& (15 : Int32))), .val (.ref b29), .unset] [(.int u2), (.ref b29)])) _
        refine st34.trans ?_
        show Steps p.tables e below (T34.setTop (mkF m 87 #[.val (.int u0), .val (.int u1), .val (.int u2), .val (.int (u0 &&& (15 : Int32))), .val (.int (u0 &&& (15 : Int32))), .val (.ref b29), .unset] [(.ref b34)])) _
        refine XS.astore X34.here hx rfl (hb hby at_87) rfl rfl (l' := #[.val (.int u0), .val (.int u1), .val (.int u2), .val (.int (u0 &&& (15 : Int32))), .val (.int (u0 &&& (15 : Int32))), .val (.ref b29), .val (.ref b34)]) rfl ?_
        show Steps p.tables e below (T34.setTop (mkF m 89 #[.val (.int u0), .val (.int u1), .val (.int u2), .val (.int (u0 &&& (15 : Int32))), .val (.int (u0 &&& (15 : Int32))), .val (.ref b29), .val (.ref b34)] [])) _
        refine XS.aload X34.here hx rfl (hb hby at_89) rfl rfl ?_
        show Steps p.tables e below (T34.setTop (mkF m 91 #[.val (.int u0), .val (.int u1), .val (.int u2), .val (.int (u0 &&& (15 : Int32))), .val (.int (u0 &&& (15 : Int32))), .val (.ref b29), .val (.ref b34)] [(.ref b34)])) _
        refine st35.trans ?_
        show Steps p.tables e below (T35.setTop (mkF m 94 #[.val (.int u0), .val (.int u1), .val (.int u2), .val (.int (u0 &&& (15 : Int32))), .val (.int (u0 &&& (15 : Int32))), .val (.ref b29), .val (.ref b34)] [(.int (cnt (u0 &&& (15 : Int32))))])) _
        refine XS.iload X35.here hx rfl (hb hby at_94) rfl ?_
        show Steps p.tables e below (T35.setTop (mkF m 96 #[.val (.int u0), .val (.int u1), .val (.int u2), .val (.int (u0 &&& (15 : Int32))), .val (.int (u0 &&& (15 : Int32))), .val (.ref b29), .val (.ref b34)] [(.int (u0 &&& (15 : Int32))), (.int (cnt (u0 &&& (15 : Int32))))])) _
        refine XS.icmpNo X35.here hx rfl (hb hby at_96) rfl (teq (by unfold cnt; simp [hc21])).2 ?_
        show Steps p.tables e below (T35.setTop (mkF m 99 #[.val (.int u0), .val (.int u1), .val (.int u2), .val (.int (u0 &&& (15 : Int32))), .val (.int (u0 &&& (15 : Int32))), .val (.ref b29), .val (.ref b34)] [])) _
        refine XS.aload X35.here hx rfl (hb hby at_99) rfl rfl ?_
        show Steps p.tables e below (T35.setTop (mkF m 101 #[.val (.int u0), .val (.int u1), .val (.int u2), .val (.int (u0 &&& (15 : Int32))), .val (.int (u0 &&& (15 : Int32))), .val (.ref b29), .val (.ref b34)] [(.ref b34)])) _
        refine st36.trans ?_
        show Steps p.tables e below (T36.setTop (mkF m 104 #[.val (.int u0), .val (.int u1), .val (.int u2), .val (.int (u0 &&& (15 : Int32))), .val (.int (u0 &&& (15 : Int32))), .val (.ref b29), .val (.ref b34)] [(.int (cnt (u0 &&& (15 : Int32))))])) _
        refine XS.iload X36.here hx rfl (hb hby at_104) rfl ?_
        show Steps p.tables e below (T36.setTop (mkF m 106 #[.val (.int u0), .val (.int u1), .val (.int u2), .val (.int (u0 &&& (15 : Int32))), .val (.int (u0 &&& (15 : Int32))), .val (.ref b29), .val (.ref b34)] [(.int (u0 &&& (15 : Int32))), (.int (cnt (u0 &&& (15 : Int32))))])) _
        refine XS.icmpNo X36.here hx rfl (hb hby at_106) rfl (teq (by unfold cnt; simp [hc21])).2 ?_
        show Steps p.tables e below (T36.setTop (mkF m 109 #[.val (.int u0), .val (.int u1), .val (.int u2), .val (.int (u0 &&& (15 : Int32))), .val (.int (u0 &&& (15 : Int32))), .val (.ref b29), .val (.ref b34)] [])) _
        refine XS.aload X36.here hx rfl (hb hby at_109) rfl rfl ?_
        show Steps p.tables e below (T36.setTop (mkF m 111 #[.val (.int u0), .val (.int u1), .val (.int u2), .val (.int (u0 &&& (15 : Int32))), .val (.int (u0 &&& (15 : Int32))), .val (.ref b29), .val (.ref b34)] [(.ref b34)])) _
        refine st37.trans ?_
        show Steps p.tables e below (T37.setTop (mkF m 114 #[.val (.int u0), .val (.int u1), .val (.int u2), .val (.int (u0 &&& (15 : Int32))), .val (.int (u0 &&& (15 : Int32))), .val (.ref b29), .val (.ref b34)] [(.int (1 : Int32))])) _
        refine XS.iconst X37.here hx rfl (hb hby at_114) ?_
        show Steps p.tables e below (T37.setTop (mkF m 115 #[.val (.int u0), .val (.int u1), .val (.int u2), .val (.int (u0 &&& (15 : Int32))), .val (.int (u0 &&& (15 : Int32))), .val (.ref b29), .val (.ref b34)] [(.int (1 : Int32)), (.int (1 : Int32))])) _
        refine XS.icmpNo X37.here hx rfl (hb hby at_115) rfl (teq (by decide)).2 ?_
        show Steps p.tables e below (T37.setTop (mkF m 118 #[.val (.int u0), .val (.int u1), .val (.int u2), .val (.int (u0 &&& (15 : Int32))), .val (.int (u0 &&& (15 : Int32))), .val (.ref b29), .val (.ref b34)] [])) _
        refine XS.iconst X37.here hx rfl (hb hby at_118) ?_
        show Steps p.tables e below (T37.setTop (mkF m 119 #[.val (.int u0), .val (.int u1), .val (.int u2), .val (.int (u0 &&& (15 : Int32))), .val (.int (u0 &&& (15 : Int32))), .val (.ref b29), .val (.ref b34)] [(.int (1 : Int32))])) _
        refine XS.goto X37.here hx rfl (pc0 := 119) (pc' := 123) rfl (hb hby at_119) (by decide) (by decide) ?_
        show Steps p.tables e below (T37.setTop (mkF m 123 #[.val (.int u0), .val (.int u1), .val (.int u2), .val (.int (u0 &&& (15 : Int32))), .val (.int (u0 &&& (15 : Int32))), .val (.ref b29), .val (.ref b34)] [(.int (1 : Int32))])) _
        exact retN X37 hx (t := .boolean) Bd.returns (by simp) (hb hby at_123) hr
      · show Q0 Z u0 u1 u2 h0 n0 _ T37.heap _
        rw [e37]
        exact ⟨rfl, N37⟩
set_option maxRecDepth 65536 in
set_option maxHeartbeats 40000000 in
theorem comes_1 {Post : Tables → Env → Array Value → State → Outcome → State → Prop} (hpost : ∀ tb e args s v u, (limb_1_1.after args s (.returned v) u = true ∧ limb_1_2.after args s (.returned v) u = true ∧ True) → FrameEnd s (.returned v) u (Jvm.fieldLocs frame_1_writes args s ++ Jvm.arrayLocs frame_1_arrays args s ++ Jvm.staticLocs frame_1_statics s) 16 128 → Post tb e args s (.returned v) u) :
    ArmFor flags0 classFile x code maxLocals ret World_1 tables_1 room_1 Calls_1 rest_1 Pre_1 Post := by
  intro l hfl _ _ p e ha hc hk s m args below hf hA hF happ hP
  obtain ⟨hcalls, hrest, hpre⟩ := hP
  obtain ⟨-, -, -, hnamed, -, -, -, hat⟩ := (Spec.applies_iff hf).mp happ
  obtain ⟨hg, hn⟩ := and_e (Cond.before_iff.mp (show (Jvm.Cond.and given_1 narrow_1).before args s = true from hpre))
  obtain ⟨g1, g2⟩ := and_e hg
  obtain ⟨g3, g4⟩ := and_e g2
  obtain ⟨g5, g6⟩ := and_e g4
  obtain ⟨w0, w1, w2, rfl⟩ : ∃ w0 w1 w2 : Value, args = #[w0, w1, w2] := by
    have hs : args.size = 3 := by simpa [Cond.value, given_1] using g1
    obtain ⟨L⟩ := args
    match L, hs with
    | [w0, w1, w2], _ => exact ⟨w0, w1, w2, rfl⟩
  have hw := fun d (hd : d ∈ tables_1) => atoms_spec (ws := Jvm.Cond.code x code maxLocals ret :: tables_1) hat d (List.mem_cons_of_mem _ hd)
  have hfit : Fit s := fun {y c} hc i hi => by
    obtain ⟨ha, rfl⟩ := Array.getElem?_eq_some_iff.mp hc
    have q := List.all_eq_true.mp ((Array.all_eq_true_iff_forall_mem.mp hF) _ (Array.getElem_mem ha)) i (List.mem_range.mpr hi)
    simpa [Array.getElem?_eq_getElem hi] using q
  obtain ⟨i0, ei0⟩ := is_v g3
  obtain rfl : w0 = (.int i0) := Option.some.inj ei0
  obtain ⟨i1, ei1⟩ := is_v g5
  obtain rfl : w1 = (.int i1) := Option.some.inj ei1
  obtain ⟨i2, ei2⟩ := is_v g6
  obtain rfl : w2 = (.int i2) := Option.some.inj ei2
  obtain ⟨n, o, h1, h2, h3, _, L, rfl, ⟨rfl, N⟩, hq⟩ := rm0 l s _ hw tables_1 i0 i1 i2 s.heap s.heap.size (Nat.le_refl _)  p e ha hc hk s m _ below hf ((Spec.applies_iff_loose hf).mp happ).1 ⟨rfl, State.Warmed39.refl s, rfl⟩ trivial
  refine ⟨n, _, h1, h2, h3, hpost _ _ _ _ _ _ ⟨Cond.after_iff.mpr rfl, Cond.after_iff.mpr (eq_i res_at (Term.int_eval (1)) rfl), trivial⟩ ⟨hq.1, hq.2.1, (hq.2.2.sift fun y hy => Or.inr (N y hy)).mono (by decide) (by decide)⟩⟩
theorem main_1_1 : Claimed_1_1 := comes_1 fun _ _ _ _ _ _ h hF => ⟨h.1, hF⟩
theorem main_1_2 : Claimed_1_2 := comes_1 fun _ _ _ _ _ _ h hF => ⟨h.2.1, hF⟩
end Jvm.Pilot.@@N@@
namespace Jvm.Pilot.@@N@@
open Jvm Jvm.ClassFile Sem Op Lib Jvm.Free Jvm.Stand Jvm.Pilot.@@N@@.Jvm.D
/-! MADE BY PROGRAM (witnessworld.py) out of the Statement's table words and the real class files: 11 classes; the members and pool entries that the words name. The judged class is class 1, her method 1. -/
namespace start1
open Jvm.ClassFile
def u (s : String) : CpInfo := .utf8 (stringToUtf16 s)
/-- a pool by its gaps: so many unusable entries, then the entry; so many at the end -/
def gap : Nat → List CpInfo → List CpInfo
  | 0, r => r
  | n + 1, r => .unusable :: gap n r
def poolList (es : List (Nat × CpInfo)) (last : Nat) : List CpInfo := es.foldr (fun e r => gap e.1 (e.2 :: r)) (gap last [])
def pool (es : List (Nat × CpInfo)) (last : Nat) : Array CpInfo := ⟨poolList es last⟩
def fileOf (pool : Array CpInfo) (this : Nat) (attrs : Array Attribute := #[]) (ms : Array MethodInfo := #[]) (fl : Nat := 33) (sup : Nat := 0) (ifs : Array Nat := #[]) (fds : Array FieldInfo := #[]) : ClassFile where
  minorVersion := 0
  majorVersion := 65
  constantPool := pool
  accessFlags := fl
  thisClass := this
  superClass := sup
  interfaces := ifs
  fields := fds
  methods := ms
  attributes := attrs
def plain (name : String) (sup : Option ClassId) : Class where
  name := name
  kind := .ordinary
  loader := none
  accessFlags := 33
  super := sup
  interfaces := #[]
  cf := none
  fields := #[]
  methods := #[]
  instanceTypes := #[]
  staticTypes := #[]
  resolved := #[]
  callSites := []
  init := .initialized
  statics := none
  mirror := none

def pool0 : Array CpInfo := pool [(5, u "<init>"), (0, u "()V"), (1, .class_ 10), (1, u "java/lang/Object")] 113

def k0c0 : Code := { maxStack := 0, maxLocals := 1, code := object_method_1_code, exceptionTable := #[], attributes := #[] }
def k0m0 : Method := { name := "<init>", desc := "()V", sig := { parameters := [], returnType := none }, accessFlags := 1, code := some k0c0 }
/-- java/lang/Object -/
def k0 : Class := { plain "java/lang/Object" none with
  accessFlags := 33
  interfaces := #[]
  cf := some (fileOf pool0 8 #[] #[{ accessFlags := 1, nameIndex := 5, descriptorIndex := 6, attributes := #[] }] 33 0 #[] #[])
  fields := #[]
  methods := #[k0m0]
  instanceTypes := #[]
  staticTypes := #[]
  resolved := Array.replicate 124 none
  statics := none }

def pool1 : Array CpInfo := pool [(2, .class_ 4), (1, u "java/lang/Object"), (0, u "<init>"), (0, u "()V"), (0, .integer 2147483647), (0, .methodref 9 10), (0, .class_ 11), (0, .nameAndType 12 13), (0, u "com/example/rehydra/rehydra/KeySlots"), (0, u "builtWithNoValues"), (0, u "(I)Lcom/example/rehydra/rehydra/KeySlots;"), (0, .methodref 9 15), (0, .nameAndType 16 17), (0, u "count"), (0, u "()I"), (0, .methodref 9 19), (0, .nameAndType 20 17), (0, u "capacity"), (0, .methodref 9 22), (0, .nameAndType 23 24), (0, u "worthKeeping"), (0, u "()Z"), (0, .methodref 9 26), (0, .nameAndType 27 24), (0, u "crowded"), (0, .methodref 9 29), (0, .nameAndType 30 31), (0, u "walk"), (0, u "(I)Lcom/example/rehydra/rehydra/KeySlots$Walk;"), (0, .methodref 33 34), (0, .class_ 35), (0, .nameAndType 36 17), (0, u "com/example/rehydra/rehydra/KeySlots$Walk"), (0, u "keys"), (0, .methodref 33 38), (0, .nameAndType 39 17), (0, u "sameHash"), (0, .methodref 33 41), (0, .nameAndType 42 17), (0, u "largestReach"), (0, .class_ 44), (0, u "com/example/rehydra/rehydra/KeySlotsBuiltWithNoValuesPinLaw"), (2, u "law"), (0, u "(III)Z")] 5

def k1m0 : Method := { name := "<init>", desc := "()V", sig := { parameters := [], returnType := none }, accessFlags := 2, code := none }
def k1c1 : Code := { maxStack := 2, maxLocals := 7, code := code, exceptionTable := #[], attributes := #[] }
def k1m1 : Method := { name := "law", desc := "(III)Z", sig := { parameters := [.int, .int, .int], returnType := some .boolean }, accessFlags := 9, code := some k1c1 }
/-- com/example/rehydra/rehydra/KeySlotsBuiltWithNoValuesPinLaw -/
def k1 : Class := { plain "com/example/rehydra/rehydra/KeySlotsBuiltWithNoValuesPinLaw" (some 0) with
  accessFlags := 49
  interfaces := #[]
  cf := some (fileOf pool1 43 #[] #[{ accessFlags := 2, nameIndex := 5, descriptorIndex := 6, attributes := #[] }, { accessFlags := 9, nameIndex := 47, descriptorIndex := 48, attributes := #[] }] 49 2 #[] #[])
  fields := #[]
  methods := #[k1m0, k1m1]
  instanceTypes := #[]
  staticTypes := #[]
  resolved := Array.replicate 54 none
  statics := none }

def pool2 : Array CpInfo := pool [(1, .class_ 2), (0, u "com/example/rehydra/rehydra/KeySlots"), (2, .methodref 6 7), (0, .class_ 8), (0, .nameAndType 9 10), (0, u "java/lang/Object"), (0, u "<init>"), (0, u "()V"), (0, .fieldref 1 12), (0, .nameAndType 13 14), (0, u "loadFactor"), (0, u "F"), (0, .fieldref 1 16), (0, .nameAndType 17 18), (0, u "capacity"), (0, u "I"), (0, .float 1061158912), (0, .methodref 1 21), (0, .nameAndType 9 22), (0, u "(IF)V"), (0, .fieldref 1 24), (0, .nameAndType 25 18), (0, u "count"), (5, u "()Z"), (13, u "()I"), (18, .fieldref 1 65), (0, .nameAndType 66 67), (0, u "large"), (0, u "[I"), (0, .fieldref 1 69), (0, .nameAndType 70 67), (0, u "heads"), (4, .fieldref 1 76), (0, .nameAndType 77 67), (0, u "hashes"), (0, .fieldref 1 79), (0, .nameAndType 80 67), (0, u "reaches"), (0, .fieldref 1 82), (0, .nameAndType 83 67), (0, u "next"), (0, .class_ 85), (0, u "com/example/rehydra/rehydra/KeySlots$Walk"), (0, .methodref 84 87), (0, .nameAndType 9 88), (0, u "(III)V"), (27, u "DEFAULT_CAPACITY"), (2, u "DEFAULT_LOAD_FACTOR"), (0, u "FEW_KEYS"), (1, u "FEW_SLOTS"), (1, u "MAX_THRESHOLD"), (3, u "builtWithNoValues"), (0, u "(I)Lcom/example/rehydra/rehydra/KeySlots;"), (5, u "worthKeeping"), (0, u "crowded"), (0, u "walk"), (0, u "(I)Lcom/example/rehydra/rehydra/KeySlots$Walk;")] 9

def k2c0 : Code := { maxStack := 2, maxLocals := 3, code := prog_28_method_1_code, exceptionTable := #[], attributes := #[] }
def k2m0 : Method := { name := "<init>", desc := "(IF)V", sig := { parameters := [.int, .float], returnType := none }, accessFlags := 2, code := some k2c0 }
def k2c1 : Code := { maxStack := 4, maxLocals := 2, code := prog_28_method_2_code, exceptionTable := #[], attributes := #[] }
def k2m1 : Method := { name := "builtWithNoValues", desc := "(I)Lcom/example/rehydra/rehydra/KeySlots;", sig := { parameters := [.int], returnType := some (.object "com/example/rehydra/rehydra/KeySlots") }, accessFlags := 8, code := some k2c1 }
def k2c2 : Code := { maxStack := 2, maxLocals := 1, code := prog_28_method_4_code, exceptionTable := #[], attributes := #[] }
def k2m2 : Method := { name := "worthKeeping", desc := "()Z", sig := { parameters := [], returnType := some .boolean }, accessFlags := 0, code := some k2c2 }
def k2c3 : Code := { maxStack := 2, maxLocals := 1, code := prog_28_method_5_code, exceptionTable := #[], attributes := #[] }
def k2m3 : Method := { name := "crowded", desc := "()Z", sig := { parameters := [], returnType := some .boolean }, accessFlags := 0, code := some k2c3 }
def k2c4 : Code := { maxStack := 1, maxLocals := 1, code := prog_28_method_6_code, exceptionTable := #[], attributes := #[] }
def k2m4 : Method := { name := "count", desc := "()I", sig := { parameters := [], returnType := some .int }, accessFlags := 0, code := some k2c4 }
def k2c5 : Code := { maxStack := 1, maxLocals := 1, code := prog_28_method_7_code, exceptionTable := #[], attributes := #[] }
def k2m5 : Method := { name := "capacity", desc := "()I", sig := { parameters := [], returnType := some .int }, accessFlags := 0, code := some k2c5 }
def k2c6 : Code := { maxStack := 5, maxLocals := 6, code := prog_28_method_8_code, exceptionTable := #[], attributes := #[] }
def k2m6 : Method := { name := "walk", desc := "(I)Lcom/example/rehydra/rehydra/KeySlots$Walk;", sig := { parameters := [.int], returnType := some (.object "com/example/rehydra/rehydra/KeySlots$Walk") }, accessFlags := 0, code := some k2c6 }
/-- com/example/rehydra/rehydra/KeySlots -/
def k2 : Class := { plain "com/example/rehydra/rehydra/KeySlots" (some 0) with
  accessFlags := 48
  interfaces := #[]
  cf := some (fileOf pool2 1 #[.nestMembers #[84]] #[{ accessFlags := 2, nameIndex := 9, descriptorIndex := 22, attributes := #[] }, { accessFlags := 8, nameIndex := 128, descriptorIndex := 129, attributes := #[] }, { accessFlags := 0, nameIndex := 135, descriptorIndex := 31, attributes := #[] }, { accessFlags := 0, nameIndex := 136, descriptorIndex := 31, attributes := #[] }, { accessFlags := 0, nameIndex := 25, descriptorIndex := 45, attributes := #[] }, { accessFlags := 0, nameIndex := 17, descriptorIndex := 45, attributes := #[] }, { accessFlags := 0, nameIndex := 137, descriptorIndex := 138, attributes := #[] }] 48 6 #[] #[{ accessFlags := 26, nameIndex := 116, descriptorIndex := 18, attributes := #[] }, { accessFlags := 26, nameIndex := 119, descriptorIndex := 14, attributes := #[] }, { accessFlags := 26, nameIndex := 120, descriptorIndex := 18, attributes := #[] }, { accessFlags := 26, nameIndex := 122, descriptorIndex := 18, attributes := #[] }, { accessFlags := 26, nameIndex := 124, descriptorIndex := 18, attributes := #[] }, { accessFlags := 18, nameIndex := 13, descriptorIndex := 14, attributes := #[] }, { accessFlags := 2, nameIndex := 17, descriptorIndex := 18, attributes := #[] }, { accessFlags := 2, nameIndex := 25, descriptorIndex := 18, attributes := #[] }, { accessFlags := 2, nameIndex := 66, descriptorIndex := 67, attributes := #[] }, { accessFlags := 2, nameIndex := 70, descriptorIndex := 67, attributes := #[] }, { accessFlags := 2, nameIndex := 77, descriptorIndex := 67, attributes := #[] }, { accessFlags := 2, nameIndex := 83, descriptorIndex := 67, attributes := #[] }, { accessFlags := 2, nameIndex := 80, descriptorIndex := 67, attributes := #[] }])
  fields := #[{ name := "DEFAULT_CAPACITY", type := .int, accessFlags := 26, slot := 0, constantValue := 0 }, { name := "DEFAULT_LOAD_FACTOR", type := .float, accessFlags := 26, slot := 1, constantValue := 0 }, { name := "FEW_KEYS", type := .int, accessFlags := 26, slot := 2, constantValue := 0 }, { name := "FEW_SLOTS", type := .int, accessFlags := 26, slot := 3, constantValue := 0 }, { name := "MAX_THRESHOLD", type := .int, accessFlags := 26, slot := 4, constantValue := 0 }, { name := "loadFactor", type := .float, accessFlags := 18, slot := 0, constantValue := 0 }, { name := "capacity", type := .int, accessFlags := 2, slot := 1, constantValue := 0 }, { name := "count", type := .int, accessFlags := 2, slot := 2, constantValue := 0 }, { name := "large", type := (.array .int), accessFlags := 2, slot := 3, constantValue := 0 }, { name := "heads", type := (.array .int), accessFlags := 2, slot := 4, constantValue := 0 }, { name := "hashes", type := (.array .int), accessFlags := 2, slot := 5, constantValue := 0 }, { name := "next", type := (.array .int), accessFlags := 2, slot := 6, constantValue := 0 }, { name := "reaches", type := (.array .int), accessFlags := 2, slot := 7, constantValue := 0 }]
  methods := #[k2m0, k2m1, k2m2, k2m3, k2m4, k2m5, k2m6]
  instanceTypes := #[.float, .int, .int, (.array .int), (.array .int), (.array .int), (.array .int), (.array .int)]
  staticTypes := #[.int, .float, .int, .int, .int]
  resolved := Array.replicate 148 none
  statics := none }

def pool3 : Array CpInfo := pool [(1, .methodref 2 3), (0, .class_ 4), (0, .nameAndType 5 6), (0, u "java/lang/Object"), (0, u "<init>"), (0, u "()V"), (0, .class_ 8), (0, u "java/lang/Record")] 13

def k3c0 : Code := { maxStack := 1, maxLocals := 1, code := jdk_30_method_1_code, exceptionTable := #[], attributes := #[] }
def k3m0 : Method := { name := "<init>", desc := "()V", sig := { parameters := [], returnType := none }, accessFlags := 4, code := some k3c0 }
/-- java/lang/Record -/
def k3 : Class := { plain "java/lang/Record" (some 0) with
  accessFlags := 1057
  interfaces := #[]
  cf := some (fileOf pool3 7 #[] #[{ accessFlags := 4, nameIndex := 5, descriptorIndex := 6, attributes := #[] }] 1057 2 #[] #[])
  fields := #[]
  methods := #[k3m0]
  instanceTypes := #[]
  staticTypes := #[]
  resolved := Array.replicate 22 none
  statics := none }

def pool4 : Array CpInfo := pool [(1, .methodref 2 3), (0, .class_ 4), (0, .nameAndType 5 6), (0, u "java/lang/Record"), (0, u "<init>"), (0, u "()V"), (0, .fieldref 8 9), (0, .class_ 10), (0, .nameAndType 11 12), (0, u "com/example/rehydra/rehydra/KeySlots$Walk"), (0, u "keys"), (0, u "I"), (0, .fieldref 8 14), (0, .nameAndType 15 12), (0, u "sameHash"), (0, .fieldref 8 17), (0, .nameAndType 18 12), (0, u "largestReach"), (12, u "(III)V"), (4, u "()I"), (4, .class_ 42), (0, u "com/example/rehydra/rehydra/KeySlots")] 21

def k4c0 : Code := { maxStack := 2, maxLocals := 4, code := prog_29_method_1_code, exceptionTable := #[], attributes := #[] }
def k4m0 : Method := { name := "<init>", desc := "(III)V", sig := { parameters := [.int, .int, .int], returnType := none }, accessFlags := 0, code := some k4c0 }
def k4c1 : Code := { maxStack := 1, maxLocals := 1, code := prog_29_method_5_code, exceptionTable := #[], attributes := #[] }
def k4m1 : Method := { name := "keys", desc := "()I", sig := { parameters := [], returnType := some .int }, accessFlags := 1, code := some k4c1 }
def k4c2 : Code := { maxStack := 1, maxLocals := 1, code := prog_29_method_6_code, exceptionTable := #[], attributes := #[] }
def k4m2 : Method := { name := "sameHash", desc := "()I", sig := { parameters := [], returnType := some .int }, accessFlags := 1, code := some k4c2 }
def k4c3 : Code := { maxStack := 1, maxLocals := 1, code := prog_29_method_7_code, exceptionTable := #[], attributes := #[] }
def k4m3 : Method := { name := "largestReach", desc := "()I", sig := { parameters := [], returnType := some .int }, accessFlags := 1, code := some k4c3 }
/-- com/example/rehydra/rehydra/KeySlots$Walk -/
def k4 : Class := { plain "com/example/rehydra/rehydra/KeySlots$Walk" (some 3) with
  accessFlags := 48
  interfaces := #[]
  cf := some (fileOf pool4 8 #[.nestHost 41] #[{ accessFlags := 0, nameIndex := 5, descriptorIndex := 31, attributes := #[] }, { accessFlags := 1, nameIndex := 11, descriptorIndex := 36, attributes := #[] }, { accessFlags := 1, nameIndex := 15, descriptorIndex := 36, attributes := #[] }, { accessFlags := 1, nameIndex := 18, descriptorIndex := 36, attributes := #[] }] 48 2 #[] #[{ accessFlags := 18, nameIndex := 11, descriptorIndex := 12, attributes := #[] }, { accessFlags := 18, nameIndex := 15, descriptorIndex := 12, attributes := #[] }, { accessFlags := 18, nameIndex := 18, descriptorIndex := 12, attributes := #[] }])
  fields := #[{ name := "keys", type := .int, accessFlags := 18, slot := 0, constantValue := 0 }, { name := "sameHash", type := .int, accessFlags := 18, slot := 1, constantValue := 0 }, { name := "largestReach", type := .int, accessFlags := 18, slot := 2, constantValue := 0 }]
  methods := #[k4m0, k4m1, k4m2, k4m3]
  instanceTypes := #[.int, .int, .int]
  staticTypes := #[]
  resolved := Array.replicate 64 none
  statics := none }

def pool5 : Array CpInfo := pool [(1, u "java/lang/Cloneable"), (0, .class_ 1), (0, u "java/lang/Object"), (0, .class_ 3)] 3

/-- java/lang/Cloneable -/
def k5 : Class := { plain "java/lang/Cloneable" (some 0) with
  accessFlags := 1537
  interfaces := #[]
  cf := some (fileOf pool5 2 #[] #[] 1537 4 #[] #[])
  fields := #[]
  methods := #[]
  instanceTypes := #[]
  staticTypes := #[]
  resolved := Array.replicate 8 none
  statics := none }

def pool6 : Array CpInfo := pool [(1, u "java/io/Serializable"), (0, .class_ 1), (0, u "java/lang/Object"), (0, .class_ 3)] 3

/-- java/io/Serializable -/
def k6 : Class := { plain "java/io/Serializable" (some 0) with
  accessFlags := 1537
  interfaces := #[]
  cf := some (fileOf pool6 2 #[] #[] 1537 4 #[] #[])
  fields := #[]
  methods := #[]
  instanceTypes := #[]
  staticTypes := #[]
  resolved := Array.replicate 8 none
  statics := none }

/-- the primitive byte -/
def k7 : Class := { plain "byte" none with kind := .primitive 'B', accessFlags := 0x411 }
/-- [B -/
def k8 : Class := { plain "[B" (some 0) with kind := .array 7 .byte, interfaces := #[5, 6], accessFlags := 1041 }

/-- the primitive int -/
def k9 : Class := { plain "int" none with kind := .primitive 'I', accessFlags := 0x411 }
/-- [I -/
def k10 : Class := { plain "[I" (some 0) with kind := .array 9 .int, interfaces := #[5, 6], accessFlags := 1041 }

def heap : Heap := #[]
def classes : Array Class := #[k0, k1, k2, k3, k4, k5, k6, k7, k8, k9, k10]
def interned : List (Array UInt16 × Addr) := []
def slotsUsed : Nat := 0
def theMethod : MethodId := ⟨1, 1⟩
def args0 : Array Value := #[.int 5, .int 1, .int 3]
def aboutOver (below : List Frame) : State where
  vm := { classes := classes, interned := interned.toArray }
  heap := heap
  slotsUsed := slotsUsed
  threads := #[{ frames := .invoking theMethod args0 :: below }]
def below0 : List Frame := [.native { method := ⟨0, 0⟩, args := #[] }]
def about1 : State := aboutOver below0
def p0 : Program := .bare "" "" ""
def e0 : Env := launch0.env 0 0 0
theorem w_frames : about1.frames = Frame.invoking theMethod args0 :: below0 := rfl
set_option maxRecDepth 65536 in
theorem w_args : argsFit about1.vm theMethod args0 = true := by decide +kernel
set_option maxRecDepth 65536 in
theorem w_heap : heapFits about1 = true := by decide +kernel
set_option maxRecDepth 65536 in
theorem w_runnable : about1.curStatus? = some .runnable := by decide +kernel
set_option maxRecDepth 65536 in
theorem w_alone : about1.alone = true := by decide +kernel
set_option maxRecDepth 65536 in
theorem w_named : about1.methodNamed? x = some theMethod := by decide +kernel
set_option maxRecDepth 65536 in
theorem w_hears : about1.hears theMethod below0 = true := by decide +kernel
set_option maxRecDepth 65536 in
theorem w_ripe : about1.ripe theMethod args0 below0 = true := by decide +kernel
theorem w_running : about1.status = .running := rfl
set_option maxRecDepth 65536 in
theorem w_room : about1.hasRoom e0.platform room_1 = true :=
  launch0.hasRoom_least _ room_1 (by decide +kernel) (by decide +kernel) (by decide +kernel) (by decide +kernel) (by decide +kernel) (by decide +kernel)
theorem allAtoms_all (ts : List Jvm.Cond) (a : Array Jvm.Value) (st : Jvm.State) : (allAtoms ts).before a st = ts.all (fun c => c.before a st) := by
  induction ts with
  | nil => rfl
  | cons c t ih =>
    show (Jvm.Cond.and c (allAtoms t)).before a st = _
    rw [Jvm.Cond.before_and, ih, List.all_cons]
def words1 : List Jvm.Cond := Jvm.Cond.code x code maxLocals ret :: tables_1
/-- a 'code' word, met by the world's own term for the bytes: nothing is compared byte by byte -/
theorem code_word {y : MethodName} {bytes : ByteArray} {mx : Nat} {rt : Option FieldType} {a : Array Value} {s : State} {m : MethodId} {meth : Method} {c : Code} (h1 : s.methodNamed? y = some m) (h2 : s.vm.method? m = some meth) (h3 : meth.code = some c) (h4 : c.code = bytes)
    (h5 : (c.maxLocals == mx && c.exceptionTable.isEmpty && decide (c.maxStack ≤ mostOperands) && decide (meth.sig.returnType = rt) && !meth.locks && decide (parseMethodDescriptor y.desc = some meth.sig)) = true) : (Jvm.Cond.code y bytes mx rt).before a s = true := by
  simp only [Bool.and_eq_true, beq_iff_eq, Bool.not_eq_true', decide_eq_true_eq] at h5
  obtain ⟨⟨⟨⟨⟨g1, g2⟩, g3⟩, g4⟩, g5⟩, g6⟩ := h5
  simp [Cond.before, Cond.holds, Cond.value, h1, h2, h3, h4, g1, g2, g3, g4, g5, g6]
def isCode : Jvm.Cond → Bool
  | .code _ _ _ _ => true
  | _ => false
theorem all_split {L : List Jvm.Cond} {P : Jvm.Cond → Bool} (h1 : L.all (fun c => isCode c || P c) = true) (h2 : ∀ c ∈ L.filter isCode, P c = true) : L.all P = true := by
  refine List.all_eq_true.mpr fun c hc => ?_
  have h := List.all_eq_true.mp h1 c hc
  rcases Bool.eq_false_or_eq_true (isCode c) with hi | hi
  · exact h2 c (List.mem_filter.mpr ⟨hc, hi⟩)
  · simpa [hi] using h
set_option maxRecDepth 65536 in
theorem w_c0 : (Jvm.Cond.code x code maxLocals ret).before args0 about1 = true := code_word (m := ⟨1, 1⟩) (meth := k1m1) (c := k1c1) (by decide +kernel) rfl rfl rfl (by decide +kernel)
set_option maxRecDepth 65536 in
theorem w_c1 : (Jvm.Cond.code ({ cls := "com/example/rehydra/rehydra/KeySlots", name := "builtWithNoValues", desc := "(I)Lcom/example/rehydra/rehydra/KeySlots;" } : Jvm.MethodName) prog_28_method_2_code (2 : Nat) (Option.some (Jvm.ClassFile.FieldType.object "com/example/rehydra/rehydra/KeySlots"))).before args0 about1 = true := code_word (m := ⟨2, 1⟩) (meth := k2m1) (c := k2c1) (by decide +kernel) rfl rfl rfl (by decide +kernel)
set_option maxRecDepth 65536 in
theorem w_c2 : (Jvm.Cond.code ({ cls := "com/example/rehydra/rehydra/KeySlots", name := "<init>", desc := "(IF)V" } : Jvm.MethodName) prog_28_method_1_code (3 : Nat) (Option.none : Option Jvm.ClassFile.FieldType)).before args0 about1 = true := code_word (m := ⟨2, 0⟩) (meth := k2m0) (c := k2c0) (by decide +kernel) rfl rfl rfl (by decide +kernel)
set_option maxRecDepth 65536 in
theorem w_c3 : (Jvm.Cond.code ({ cls := "java/lang/Object", name := "<init>", desc := "()V" } : Jvm.MethodName) object_method_1_code (1 : Nat) (Option.none : Option Jvm.ClassFile.FieldType)).before args0 about1 = true := code_word (m := ⟨0, 0⟩) (meth := k0m0) (c := k0c0) (by decide +kernel) rfl rfl rfl (by decide +kernel)
set_option maxRecDepth 65536 in
theorem w_c4 : (Jvm.Cond.code ({ cls := "com/example/rehydra/rehydra/KeySlots", name := "count", desc := "()I" } : Jvm.MethodName) prog_28_method_6_code (1 : Nat) (Option.some Jvm.ClassFile.FieldType.int)).before args0 about1 = true := code_word (m := ⟨2, 4⟩) (meth := k2m4) (c := k2c4) (by decide +kernel) rfl rfl rfl (by decide +kernel)
set_option maxRecDepth 65536 in
theorem w_c5 : (Jvm.Cond.code ({ cls := "com/example/rehydra/rehydra/KeySlots", name := "capacity", desc := "()I" } : Jvm.MethodName) prog_28_method_7_code (1 : Nat) (Option.some Jvm.ClassFile.FieldType.int)).before args0 about1 = true := code_word (m := ⟨2, 5⟩) (meth := k2m5) (c := k2c5) (by decide +kernel) rfl rfl rfl (by decide +kernel)
set_option maxRecDepth 65536 in
theorem w_c6 : (Jvm.Cond.code ({ cls := "com/example/rehydra/rehydra/KeySlots", name := "worthKeeping", desc := "()Z" } : Jvm.MethodName) prog_28_method_4_code (1 : Nat) (Option.some Jvm.ClassFile.FieldType.boolean)).before args0 about1 = true := code_word (m := ⟨2, 2⟩) (meth := k2m2) (c := k2c2) (by decide +kernel) rfl rfl rfl (by decide +kernel)
set_option maxRecDepth 65536 in
theorem w_c7 : (Jvm.Cond.code ({ cls := "com/example/rehydra/rehydra/KeySlots", name := "crowded", desc := "()Z" } : Jvm.MethodName) prog_28_method_5_code (1 : Nat) (Option.some Jvm.ClassFile.FieldType.boolean)).before args0 about1 = true := code_word (m := ⟨2, 3⟩) (meth := k2m3) (c := k2c3) (by decide +kernel) rfl rfl rfl (by decide +kernel)
set_option maxRecDepth 65536 in
theorem w_c8 : (Jvm.Cond.code ({ cls := "com/example/rehydra/rehydra/KeySlots", name := "walk", desc := "(I)Lcom/example/rehydra/rehydra/KeySlots$Walk;" } : Jvm.MethodName) prog_28_method_8_code (6 : Nat) (Option.some (Jvm.ClassFile.FieldType.object "com/example/rehydra/rehydra/KeySlots$Walk"))).before args0 about1 = true := code_word (m := ⟨2, 6⟩) (meth := k2m6) (c := k2c6) (by decide +kernel) rfl rfl rfl (by decide +kernel)
set_option maxRecDepth 65536 in
theorem w_c9 : (Jvm.Cond.code ({ cls := "com/example/rehydra/rehydra/KeySlots$Walk", name := "<init>", desc := "(III)V" } : Jvm.MethodName) prog_29_method_1_code (4 : Nat) (Option.none : Option Jvm.ClassFile.FieldType)).before args0 about1 = true := code_word (m := ⟨4, 0⟩) (meth := k4m0) (c := k4c0) (by decide +kernel) rfl rfl rfl (by decide +kernel)
set_option maxRecDepth 65536 in
theorem w_c10 : (Jvm.Cond.code ({ cls := "java/lang/Record", name := "<init>", desc := "()V" } : Jvm.MethodName) jdk_30_method_1_code (1 : Nat) (Option.none : Option Jvm.ClassFile.FieldType)).before args0 about1 = true := code_word (m := ⟨3, 0⟩) (meth := k3m0) (c := k3c0) (by decide +kernel) rfl rfl rfl (by decide +kernel)
set_option maxRecDepth 65536 in
theorem w_c11 : (Jvm.Cond.code ({ cls := "com/example/rehydra/rehydra/KeySlots$Walk", name := "keys", desc := "()I" } : Jvm.MethodName) prog_29_method_5_code (1 : Nat) (Option.some Jvm.ClassFile.FieldType.int)).before args0 about1 = true := code_word (m := ⟨4, 1⟩) (meth := k4m1) (c := k4c1) (by decide +kernel) rfl rfl rfl (by decide +kernel)
set_option maxRecDepth 65536 in
theorem w_c12 : (Jvm.Cond.code ({ cls := "com/example/rehydra/rehydra/KeySlots$Walk", name := "sameHash", desc := "()I" } : Jvm.MethodName) prog_29_method_6_code (1 : Nat) (Option.some Jvm.ClassFile.FieldType.int)).before args0 about1 = true := code_word (m := ⟨4, 2⟩) (meth := k4m2) (c := k4c2) (by decide +kernel) rfl rfl rfl (by decide +kernel)
set_option maxRecDepth 65536 in
theorem w_c13 : (Jvm.Cond.code ({ cls := "com/example/rehydra/rehydra/KeySlots$Walk", name := "largestReach", desc := "()I" } : Jvm.MethodName) prog_29_method_7_code (1 : Nat) (Option.some Jvm.ClassFile.FieldType.int)).before args0 about1 = true := code_word (m := ⟨4, 3⟩) (meth := k4m3) (c := k4c3) (by decide +kernel) rfl rfl rfl (by decide +kernel)
def codes1 : List Jvm.Cond := [Jvm.Cond.code x code maxLocals ret, Jvm.Cond.code ({ cls := "com/example/rehydra/rehydra/KeySlots", name := "builtWithNoValues", desc := "(I)Lcom/example/rehydra/rehydra/KeySlots;" } : Jvm.MethodName) prog_28_method_2_code (2 : Nat) (Option.some (Jvm.ClassFile.FieldType.object "com/example/rehydra/rehydra/KeySlots")), Jvm.Cond.code ({ cls := "com/example/rehydra/rehydra/KeySlots", name := "<init>", desc := "(IF)V" } : Jvm.MethodName) prog_28_method_1_code (3 : Nat) (Option.none : Option Jvm.ClassFile.FieldType), Jvm.Cond.code ({ cls := "java/lang/Object", name := "<init>", desc := "()V" } : Jvm.MethodName) object_method_1_code (1 : Nat) (Option.none : Option Jvm.ClassFile.FieldType), Jvm.Cond.code ({ cls := "com/example/rehydra/rehydra/KeySlots", name := "count", desc := "()I" } : Jvm.MethodName) prog_28_method_6_code (1 : Nat) (Option.some Jvm.ClassFile.FieldType.int), Jvm.Cond.code ({ cls := "com/example/rehydra/rehydra/KeySlots", name := "capacity", desc := "()I" } : Jvm.MethodName) prog_28_method_7_code (1 : Nat) (Option.some Jvm.ClassFile.FieldType.int), Jvm.Cond.code ({ cls := "com/example/rehydra/rehydra/KeySlots", name := "worthKeeping", desc := "()Z" } : Jvm.MethodName) prog_28_method_4_code (1 : Nat) (Option.some Jvm.ClassFile.FieldType.boolean), Jvm.Cond.code ({ cls := "com/example/rehydra/rehydra/KeySlots", name := "crowded", desc := "()Z" } : Jvm.MethodName) prog_28_method_5_code (1 : Nat) (Option.some Jvm.ClassFile.FieldType.boolean), Jvm.Cond.code ({ cls := "com/example/rehydra/rehydra/KeySlots", name := "walk", desc := "(I)Lcom/example/rehydra/rehydra/KeySlots$Walk;" } : Jvm.MethodName) prog_28_method_8_code (6 : Nat) (Option.some (Jvm.ClassFile.FieldType.object "com/example/rehydra/rehydra/KeySlots$Walk")), Jvm.Cond.code ({ cls := "com/example/rehydra/rehydra/KeySlots$Walk", name := "<init>", desc := "(III)V" } : Jvm.MethodName) prog_29_method_1_code (4 : Nat) (Option.none : Option Jvm.ClassFile.FieldType), Jvm.Cond.code ({ cls := "java/lang/Record", name := "<init>", desc := "()V" } : Jvm.MethodName) jdk_30_method_1_code (1 : Nat) (Option.none : Option Jvm.ClassFile.FieldType), Jvm.Cond.code ({ cls := "com/example/rehydra/rehydra/KeySlots$Walk", name := "keys", desc := "()I" } : Jvm.MethodName) prog_29_method_5_code (1 : Nat) (Option.some Jvm.ClassFile.FieldType.int), Jvm.Cond.code ({ cls := "com/example/rehydra/rehydra/KeySlots$Walk", name := "sameHash", desc := "()I" } : Jvm.MethodName) prog_29_method_6_code (1 : Nat) (Option.some Jvm.ClassFile.FieldType.int), Jvm.Cond.code ({ cls := "com/example/rehydra/rehydra/KeySlots$Walk", name := "largestReach", desc := "()I" } : Jvm.MethodName) prog_29_method_7_code (1 : Nat) (Option.some Jvm.ClassFile.FieldType.int)]
set_option maxRecDepth 65536 in
theorem codes_eq : words1.filter isCode = codes1 := rfl
theorem w_codes : ∀ c ∈ words1.filter isCode, c.before args0 about1 = true := by
  rw [codes_eq]
  intro c hc
  simp only [codes1, List.mem_cons, List.not_mem_nil, or_false] at hc
  rcases hc with rfl | rfl | rfl | rfl | rfl | rfl | rfl | rfl | rfl | rfl | rfl | rfl | rfl | rfl
  · exact w_c0
  · exact w_c1
  · exact w_c2
  · exact w_c3
  · exact w_c4
  · exact w_c5
  · exact w_c6
  · exact w_c7
  · exact w_c8
  · exact w_c9
  · exact w_c10
  · exact w_c11
  · exact w_c12
  · exact w_c13
set_option maxRecDepth 65536 in
theorem w_t1 : (words1.take 24).all (fun c => isCode c || c.before args0 about1) = true := by decide +kernel
set_option maxRecDepth 65536 in
theorem w_t2 : ((words1.drop 24).take 24).all (fun c => isCode c || c.before args0 about1) = true := by decide +kernel
set_option maxRecDepth 65536 in
theorem w_t3 : (((words1.drop 24).drop 24).take 24).all (fun c => isCode c || c.before args0 about1) = true := by decide +kernel
set_option maxRecDepth 65536 in
theorem w_t4 : (((words1.drop 24).drop 24).drop 24).all (fun c => isCode c || c.before args0 about1) = true := by decide +kernel
theorem w_tables : (allAtoms (Jvm.Cond.code x code maxLocals ret :: tables_1)).before args0 about1 = true := by
  rw [allAtoms_all]
  show words1.all (fun c => c.before args0 about1) = true
  refine all_split ?_ w_codes
  rw [← List.take_append_drop 24 words1, List.all_append, w_t1, ← List.take_append_drop 24 (words1.drop 24), List.all_append, w_t2, ← List.take_append_drop 24 ((words1.drop 24).drop 24), List.all_append, w_t3, w_t4]
  rfl
set_option maxRecDepth 65536 in
theorem w_case : (Jvm.Cond.and given_1 narrow_1).before args0 about1 = true := by decide +kernel
theorem w_applies : (headSpec (Jvm.Cond.code x code maxLocals ret :: tables_1) room_1).applies x e0.platform about1 = true :=
  (Spec.applies_iff w_frames).mpr ⟨w_running, w_runnable, w_alone, w_named, w_hears, w_ripe, w_room, w_tables⟩
theorem atStart : AtStart classFile x code maxLocals ret World_1 tables_1 room_1 Calls_1 rest_1 Pre_1 launch0 p0 e0 about1 theMethod args0 below0 :=
  ⟨lists_1, trivial, launch0.admits_env _ _ _, launch0.least_env, fairChoices_fair.cas, fairChoices_fair.clock, w_frames, w_args, w_heap, w_applies, trivial, trivial, w_case⟩
end start1
theorem witness_1 : WitnessClaimed_1 := ⟨start1.p0, start1.e0, start1.about1, start1.theMethod, start1.args0, start1.below0, start1.atStart⟩
end Jvm.Pilot.@@N@@
