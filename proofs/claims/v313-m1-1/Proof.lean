import JvmDerived
import JvmDerived.Pilot.@@N@@Statement
import JvmDerived.Pilot.@@N@@Code
set_option linter.unusedVariables false
set_option linter.unusedSimpArgs false
@@BLOCK:NumsL.lean.txt@@
namespace Jvm.RoadKit
open Sem ClassFile Op Lib Jvm.Stand Jvm.Free Jvm.LawKit
section New
variable {p : Program} {l : Launch} {e : Env} {R : Room} {s : State} {m : MethodId} {args : Array Value} {below : List Frame} {meth : Method} {c : Code} {T : State} {locs : List Loc} {cells slots : Nat}
theorem retI (X : Stand p l e R s m args below meth c T locs cells slots) (hx : p.tables.exec = Jvm.exec) {pc : Nat} {Ls : Array Slot} {z : Int32} {rest : List Value} (hret : meth.sig.returnType = some .int) (hd : decode c.code pc = .ok (.ireturn, 1)) {fs : List Frame}
    (hl : ∀ (f : JFrame) (acts : List Action), f.method = m → f.locked = none → f.entered = [] → (doReturn e (T.setTop f) acts (some (.int z))).1 = T.setFrames fs) : Steps p.tables e below (T.setTop (mkF m pc Ls (.int z :: rest))) (T.setFrames fs) := by
  have hm' : T.vm.method? m = some meth := X.method'
  have hn : narrow .int (.int z) = .int z := rfl
  show Steps p.tables e below (T.setTop { method := m, pc := pc, locals := Ls, stack := _ :: rest, locked := none }) _
  jvm_step X.here [X.here.top, hx, hd, hm', hret, hn]
  first | (intro acts; rw [hl _ acts rfl rfl rfl]) | rw [hl _ _ rfl rfl rfl]
  exact Steps.refl _
end New
end Jvm.RoadKit
namespace Jvm.Pilot.@@N@@
open Jvm Jvm.ClassFile Sem Op Lib Jvm.Free Jvm.Stand Jvm.LawKit Jvm.RoadKit Bundle Jvm.Pilot.@@N@@.Jvm.D
theorem own_lt {x y : Int32} {k : Int} (hy : y.toInt = k) : x < y ↔ x.toInt < k := by rw [Int32.lt_iff_toInt_lt, hy]
theorem own_gt {x y : Int32} {k : Int} (hy : y.toInt = k) : y < x ↔ k < x.toInt := by rw [Int32.lt_iff_toInt_lt, hy]
theorem own_eq {x y : Int32} {k : Int} (hy : y.toInt = k) : x = y ↔ x.toInt = k := by rw [← Int32.toInt_inj, hy]
def isSur (u : Int32) : Int32 := if 55296 ≤ u.toInt ∧ u.toInt < 57344 then 1 else 0
def isAl (u : Int32) : Int32 := if u.toInt = 9 ∨ u.toInt = 10 ∨ u.toInt = 13 ∨ (32 ≤ u.toInt ∧ ¬ (55296 ≤ u.toInt ∧ u.toInt < 57344) ∧ u.toInt ≠ 65534 ∧ u.toInt ≠ 65535) then 1 else 0
theorem own_sur0 {u : Int32} (h : isSur u = 0) : ¬ (55296 ≤ u.toInt ∧ u.toInt < 57344) := by
  intro q
  unfold isSur at h
  rw [if_pos q] at h
  exact absurd h (by decide)
theorem own_sur1 {u : Int32} (h : ¬ isSur u = 0) : 55296 ≤ u.toInt ∧ u.toInt < 57344 := by
  refine Classical.byContradiction fun q => h ?_
  unfold isSur
  exact if_neg q
theorem own_u16 (z : UInt16) : z.toUInt32.toInt32.toInt = (z.toNat : Int) := by
  have h : z.toNat < 65536 := z.toNat_lt
  have e : z.toUInt32.toBitVec.toNat = z.toNat := by simp
  show z.toUInt32.toBitVec.toInt = _
  rw [BitVec.toInt_eq_toNat_of_lt (by rw [e]; omega), e]
theorem own_i2c (y : Int32) (h0 : 0 ≤ y.toInt) (h1 : y.toInt < 65536) : (y.toUInt32.toUInt16.toUInt32.toInt32).toInt = y.toInt := by
  rw [own_u16]
  have e : y.toInt = (y.toBitVec.toNat : Int) := by
    show y.toBitVec.toInt = _
    have h2 : 0 ≤ y.toBitVec.toInt := h0
    have := BitVec.toInt_eq_toNat_cond y.toBitVec
    split at this
    · exact this
    · have hl := y.toBitVec.isLt
      omega
  have e2 : y.toUInt32.toUInt16.toNat = y.toBitVec.toNat % 65536 := by
    show (y.toUInt32.toUInt16).toNat = _
    rw [UInt32.toNat_toUInt16]; rfl
  rw [e2, e]
  rw [e] at h1
  have : y.toBitVec.toNat < 65536 := by omega
  rw [Nat.mod_eq_of_lt this]
theorem own_code (y : Int32) : 0 ≤ (y &&& (65535 : Int32)).toInt ∧ (y &&& (65535 : Int32)).toInt < 65536 := by
  have e : (y &&& (65535 : Int32)).toInt = y.toInt % 2 ^ 16 := Jvm.Kit.i32_mask y 65535 (k := 16) (by decide) (by decide)
  rw [e]; omega
theorem d2_0 : decode jdk_89_method_16_code 0 = .ok (.iload_n 0, 1) := by decide +kernel
theorem d2_1 : decode jdk_89_method_16_code 1 = .ok (.ldc 75, 2) := by decide +kernel
theorem d2_3 : decode jdk_89_method_16_code 3 = .ok (.if_icmp .lt 13, 3) := by decide +kernel
theorem d2_6 : decode jdk_89_method_16_code 6 = .ok (.iload_n 0, 1) := by decide +kernel
theorem d2_7 : decode jdk_89_method_16_code 7 = .ok (.ldc 77, 2) := by decide +kernel
theorem d2_9 : decode jdk_89_method_16_code 9 = .ok (.if_icmp .ge 7, 3) := by decide +kernel
theorem d2_12 : decode jdk_89_method_16_code 12 = .ok (.iconst 1, 1) := by decide +kernel
theorem d2_13 : decode jdk_89_method_16_code 13 = .ok (.goto 4, 3) := by decide +kernel
theorem d2_16 : decode jdk_89_method_16_code 16 = .ok (.iconst 0, 1) := by decide +kernel
theorem d2_17 : decode jdk_89_method_16_code 17 = .ok (.ireturn, 1) := by decide +kernel
theorem pn_java_lang_Character : plainName "java/lang/Character" = true := by first | (simp [plainName, overriddenIn]; done) | decide +kernel
theorem ef_2 (m : MethodId) (u0 : Int32) : entryFrame m #[(.int u0)] 1 = mkF m 0 #[.val (.int u0)] [] := by first | (simp [entryFrame, mkF, argsToLocals, Value.category]; done) | rfl
def Q2 (Z : State) (u0 : Int32) (h0 : Heap) (n0 : Nat) (v : Option Value) (h : Heap) (L : List Loc) : Prop := v = some (.int (isSur u0)) ∧ Fr n0 L ∧ h = h0
set_option maxRecDepth 65536 in
set_option maxHeartbeats 40000000 in
theorem rm2 (l : Launch) (Z : State) (a0 : Array Value) (hw : ∀ d ∈ tables_1, d.before a0 Z = true) (ws : List Jvm.Cond) (u0 : Int32) (h0 : Heap) (n0 : Nat) (Z0 : n0 ≤ h0.size) :
    MetFree l (⟨"java/lang/Character", "isSurrogate", "(C)Z"⟩ : MethodName) (head1 (Jvm.Cond.code (⟨"java/lang/Character", "isSurrogate", "(C)Z"⟩ : MethodName) jdk_89_method_16_code 1 (some .boolean) :: ws) ({ frames := 0, cells := 0, slots := 0, locals := 0 } : Room)) (fun a U => a = #[(.int u0)] ∧ Z.Warmed39 U.vm ∧ U.heap = h0) (fun _ _ _ _ _ => True) (fun _ U o U' => ∃ v L, o = .returned v ∧ Q2 Z u0 h0 n0 v U'.heap L ∧ FrameEnd U o U' L ({ frames := 0, cells := 0, slots := 0, locals := 0 } : Room).cells ({ frames := 0, cells := 0, slots := 0, locals := 0 } : Room).slots) := by
  refine MetFree.of_bodySF (plainFor_of_name pn_java_lang_Character) hisR ?_
  intro p e s m args below meth c s₁ Bd hml0 hP hK
  obtain ⟨rfl, hZ, hh⟩ := hP
  have hx := Bd.exec
  have hby := Bd.bytes
  have hml : c.maxLocals = 1 := hml0
  have hown : s.vm.findClass "java/lang/Character" = some m.cls := findClass_of_methodNamed Bd.named
  have hnm := (name_of_methodNamed Bd.named Bd.method).1
  have X0 : Stand p l e ({ frames := 0, cells := 0, slots := 0, locals := 0 } : Room) s m #[(.int u0)] below meth c s₁ [] 0 0 := Stand.of_body Bd
  have e0 : s₁.heap = h0 := by rw [← hh, Bd.state]; rfl
  have N0 := Fr.nil n0
  have pre0 : ∀ t, Steps p.tables e below (s₁.setTop (mkF m 0 #[.val (.int u0)] [])) t → Steps p.tables e below (s₁.setTop (entryFrame m #[(.int u0)] 1)) t := fun t k => castTop (ef_2 m u0) k
  have st1 := X0.ldcInt hx hown (mvT hZ (hw _ (List.mem_of_getElem? (i := 11) rfl))) (g := (mkF m 1 #[.val (.int u0)] [(.int u0)])) rfl (hb hby d2_1)
  by_cases hc3 : u0 < (55296 : Int32)
  · have hv : isSur u0 = (0 : Int32) := by
      rw [own_lt (k := 55296) (by decide)] at hc3
      unfold isSur
      exact if_neg (by omega)
    obtain ⟨fs, hr, hrun, hended, hW, hsame⟩ := X0.leave (v := some (.int (0 : Int32))) (fun h => by rw [Bd.returns] at h; cases h)
    refine ⟨_, _, pre0 _ ?_, hrun, hended, _, _, rfl, ?_, ⟨_, rfl⟩, hW, hsame.mono (by decide) (by decide)⟩
    · show Steps p.tables e below (s₁.setTop (mkF m 0 #[.val (.int u0)] [])) _
      refine XS.iloadN X0.here hx rfl (hb hby d2_0) rfl ?_
      show Steps p.tables e below (s₁.setTop (mkF m 1 #[.val (.int u0)] [(.int u0)])) _
      refine st1 _ ?_
      show Steps p.tables e below (s₁.setTop (mkF m 3 #[.val (.int u0)] [(.int (55296 : Int32)), (.int u0)])) _
      refine XS.icmpYes X0.here hx rfl (pc0 := 3) (pc' := 16) rfl (hb hby d2_3) rfl (tlt hc3).1 (by decide) (by decide) ?_
      show Steps p.tables e below (s₁.setTop (mkF m 16 #[.val (.int u0)] [])) _
      refine XS.iconst X0.here hx rfl (hb hby d2_16) ?_
      show Steps p.tables e below (s₁.setTop (mkF m 17 #[.val (.int u0)] [(.int (0 : Int32))])) _
      exact retN X0 hx (t := .boolean) Bd.returns (by simp) (hb hby d2_17) hr
    · show Q2 Z u0 h0 n0 _ s₁.heap _
      rw [e0]
      exact ⟨(by rw [hv]), N0, rfl⟩
  · have st2 := X0.ldcInt hx hown (mvT hZ (hw _ (List.mem_of_getElem? (i := 15) rfl))) (g := (mkF m 7 #[.val (.int u0)] [(.int u0)])) rfl (hb hby d2_7)
    by_cases hc9 : u0 < (57344 : Int32)
    · have hv : isSur u0 = (1 : Int32) := by
        rw [own_lt (k := 55296) (by decide)] at hc3
        rw [own_lt (k := 57344) (by decide)] at hc9
        unfold isSur
        exact if_pos (by omega)
      obtain ⟨fs, hr, hrun, hended, hW, hsame⟩ := X0.leave (v := some (.int (1 : Int32))) (fun h => by rw [Bd.returns] at h; cases h)
      refine ⟨_, _, pre0 _ ?_, hrun, hended, _, _, rfl, ?_, ⟨_, rfl⟩, hW, hsame.mono (by decide) (by decide)⟩
      · show Steps p.tables e below (s₁.setTop (mkF m 0 #[.val (.int u0)] [])) _
        refine XS.iloadN X0.here hx rfl (hb hby d2_0) rfl ?_
        show Steps p.tables e below (s₁.setTop (mkF m 1 #[.val (.int u0)] [(.int u0)])) _
        refine st1 _ ?_
        show Steps p.tables e below (s₁.setTop (mkF m 3 #[.val (.int u0)] [(.int (55296 : Int32)), (.int u0)])) _
        refine XS.icmpNo X0.here hx rfl (hb hby d2_3) rfl (flt hc3).1 ?_
        show Steps p.tables e below (s₁.setTop (mkF m 6 #[.val (.int u0)] [])) _
        refine XS.iloadN X0.here hx rfl (hb hby d2_6) rfl ?_
        show Steps p.tables e below (s₁.setTop (mkF m 7 #[.val (.int u0)] [(.int u0)])) _
        refine st2 _ ?_
        show Steps p.tables e below (s₁.setTop (mkF m 9 #[.val (.int u0)] [(.int (57344 : Int32)), (.int u0)])) _
        refine XS.icmpNo X0.here hx rfl (hb hby d2_9) rfl (tlt hc9).2.1 ?_
        show Steps p.tables e below (s₁.setTop (mkF m 12 #[.val (.int u0)] [])) _
        refine XS.iconst X0.here hx rfl (hb hby d2_12) ?_
        show Steps p.tables e below (s₁.setTop (mkF m 13 #[.val (.int u0)] [(.int (1 : Int32))])) _
        refine XS.goto X0.here hx rfl (pc0 := 13) (pc' := 17) rfl (hb hby d2_13) (by decide) (by decide) ?_
        show Steps p.tables e below (s₁.setTop (mkF m 17 #[.val (.int u0)] [(.int (1 : Int32))])) _
        exact retN X0 hx (t := .boolean) Bd.returns (by simp) (hb hby d2_17) hr
      · show Q2 Z u0 h0 n0 _ s₁.heap _
        rw [e0]
        exact ⟨(by rw [hv]), N0, rfl⟩
    · have hv : isSur u0 = (0 : Int32) := by
        rw [own_lt (k := 55296) (by decide)] at hc3
        rw [own_lt (k := 57344) (by decide)] at hc9
        unfold isSur
        exact if_neg (by omega)
      obtain ⟨fs, hr, hrun, hended, hW, hsame⟩ := X0.leave (v := some (.int (0 : Int32))) (fun h => by rw [Bd.returns] at h; cases h)
      refine ⟨_, _, pre0 _ ?_, hrun, hended, _, _, rfl, ?_, ⟨_, rfl⟩, hW, hsame.mono (by decide) (by decide)⟩
      · show Steps p.tables e below (s₁.setTop (mkF m 0 #[.val (.int u0)] [])) _
        refine XS.iloadN X0.here hx rfl (hb hby d2_0) rfl ?_
        show Steps p.tables e below (s₁.setTop (mkF m 1 #[.val (.int u0)] [(.int u0)])) _
        refine st1 _ ?_
        show Steps p.tables e below (s₁.setTop (mkF m 3 #[.val (.int u0)] [(.int (55296 : Int32)), (.int u0)])) _
        refine XS.icmpNo X0.here hx rfl (hb hby d2_3) rfl (flt hc3).1 ?_
        show Steps p.tables e below (s₁.setTop (mkF m 6 #[.val (.int u0)] [])) _
        refine XS.iloadN X0.here hx rfl (hb hby d2_6) rfl ?_
        show Steps p.tables e below (s₁.setTop (mkF m 7 #[.val (.int u0)] [(.int u0)])) _
        refine st2 _ ?_
        show Steps p.tables e below (s₁.setTop (mkF m 9 #[.val (.int u0)] [(.int (57344 : Int32)), (.int u0)])) _
        refine XS.icmpYes X0.here hx rfl (pc0 := 9) (pc' := 16) rfl (hb hby d2_9) rfl (flt hc9).2.1 (by decide) (by decide) ?_
        show Steps p.tables e below (s₁.setTop (mkF m 16 #[.val (.int u0)] [])) _
        refine XS.iconst X0.here hx rfl (hb hby d2_16) ?_
        show Steps p.tables e below (s₁.setTop (mkF m 17 #[.val (.int u0)] [(.int (0 : Int32))])) _
        exact retN X0 hx (t := .boolean) Bd.returns (by simp) (hb hby d2_17) hr
      · show Q2 Z u0 h0 n0 _ s₁.heap _
        rw [e0]
        exact ⟨(by rw [hv]), N0, rfl⟩
theorem pd_0 : parseMethodDescriptor "(C)Z" = some ⟨[.char], some .boolean⟩ := by decide +kernel
theorem d1_0 : decode prog_41_method_6_code 0 = .ok (.iload_n 0, 1) := by decide +kernel
theorem d1_1 : decode prog_41_method_6_code 1 = .ok (.bipush 9, 2) := by decide +kernel
theorem d1_3 : decode prog_41_method_6_code 3 = .ok (.if_icmp .eq 40, 3) := by decide +kernel
theorem d1_6 : decode prog_41_method_6_code 6 = .ok (.iload_n 0, 1) := by decide +kernel
theorem d1_7 : decode prog_41_method_6_code 7 = .ok (.bipush 10, 2) := by decide +kernel
theorem d1_9 : decode prog_41_method_6_code 9 = .ok (.if_icmp .eq 34, 3) := by decide +kernel
theorem d1_12 : decode prog_41_method_6_code 12 = .ok (.iload_n 0, 1) := by decide +kernel
theorem d1_13 : decode prog_41_method_6_code 13 = .ok (.bipush 13, 2) := by decide +kernel
theorem d1_15 : decode prog_41_method_6_code 15 = .ok (.if_icmp .eq 28, 3) := by decide +kernel
theorem d1_18 : decode prog_41_method_6_code 18 = .ok (.iload_n 0, 1) := by decide +kernel
theorem d1_19 : decode prog_41_method_6_code 19 = .ok (.bipush 32, 2) := by decide +kernel
theorem d1_21 : decode prog_41_method_6_code 21 = .ok (.if_icmp .lt 26, 3) := by decide +kernel
theorem d1_24 : decode prog_41_method_6_code 24 = .ok (.iload_n 0, 1) := by decide +kernel
theorem d1_25 : decode prog_41_method_6_code 25 = .ok (.invokestatic 95, 3) := by decide +kernel
theorem d1_28 : decode prog_41_method_6_code 28 = .ok (.ifCond .ne 19, 3) := by decide +kernel
theorem d1_31 : decode prog_41_method_6_code 31 = .ok (.iload_n 0, 1) := by decide +kernel
theorem d1_32 : decode prog_41_method_6_code 32 = .ok (.ldc 98, 2) := by decide +kernel
theorem d1_34 : decode prog_41_method_6_code 34 = .ok (.if_icmp .eq 13, 3) := by decide +kernel
theorem d1_37 : decode prog_41_method_6_code 37 = .ok (.iload_n 0, 1) := by decide +kernel
theorem d1_38 : decode prog_41_method_6_code 38 = .ok (.ldc 99, 2) := by decide +kernel
theorem d1_40 : decode prog_41_method_6_code 40 = .ok (.if_icmp .eq 7, 3) := by decide +kernel
theorem d1_43 : decode prog_41_method_6_code 43 = .ok (.iconst 1, 1) := by decide +kernel
theorem d1_44 : decode prog_41_method_6_code 44 = .ok (.goto 4, 3) := by decide +kernel
theorem d1_47 : decode prog_41_method_6_code 47 = .ok (.iconst 0, 1) := by decide +kernel
theorem d1_48 : decode prog_41_method_6_code 48 = .ok (.ireturn, 1) := by decide +kernel
theorem pn_com_example_rehydra_rehydra_XmlText : plainName "com/example/rehydra/rehydra/XmlText" = true := by first | (simp [plainName, overriddenIn]; done) | decide +kernel
theorem ef_1 (m : MethodId) (u0 : Int32) : entryFrame m #[(.int u0)] 1 = mkF m 0 #[.val (.int u0)] [] := by first | (simp [entryFrame, mkF, argsToLocals, Value.category]; done) | rfl
def Q1 (Z : State) (u0 : Int32) (h0 : Heap) (n0 : Nat) (v : Option Value) (h : Heap) (L : List Loc) : Prop := v = some (.int (isAl u0)) ∧ Fr n0 L ∧ h = h0
set_option maxRecDepth 65536 in
set_option maxHeartbeats 40000000 in
theorem rm1 (l : Launch) (Z : State) (a0 : Array Value) (hw : ∀ d ∈ tables_1, d.before a0 Z = true) (ws : List Jvm.Cond) (u0 : Int32) (h0 : Heap) (n0 : Nat) (Z0 : n0 ≤ h0.size) :
    MetFree l (⟨"com/example/rehydra/rehydra/XmlText", "isAllowedAlone", "(C)Z"⟩ : MethodName) (head1 (Jvm.Cond.code (⟨"com/example/rehydra/rehydra/XmlText", "isAllowedAlone", "(C)Z"⟩ : MethodName) prog_41_method_6_code 1 (some .boolean) :: ws) ({ frames := 1, cells := 0, slots := 0, locals := 12 } : Room)) (fun a U => a = #[(.int u0)] ∧ Z.Warmed39 U.vm ∧ U.heap = h0) (fun _ _ _ _ _ => True) (fun _ U o U' => ∃ v L, o = .returned v ∧ Q1 Z u0 h0 n0 v U'.heap L ∧ FrameEnd U o U' L ({ frames := 1, cells := 0, slots := 0, locals := 12 } : Room).cells ({ frames := 1, cells := 0, slots := 0, locals := 12 } : Room).slots) := by
  refine MetFree.of_bodySF (plainFor_of_name pn_com_example_rehydra_rehydra_XmlText) hisR ?_
  intro p e s m args below meth c s₁ Bd hml0 hP hK
  obtain ⟨rfl, hZ, hh⟩ := hP
  have hx := Bd.exec
  have hby := Bd.bytes
  have hml : c.maxLocals = 1 := hml0
  have hown : s.vm.findClass "com/example/rehydra/rehydra/XmlText" = some m.cls := findClass_of_methodNamed Bd.named
  have hnm := (name_of_methodNamed Bd.named Bd.method).1
  have X0 : Stand p l e ({ frames := 1, cells := 0, slots := 0, locals := 12 } : Room) s m #[(.int u0)] below meth c s₁ [] 0 0 := Stand.of_body Bd
  have e0 : s₁.heap = h0 := by rw [← hh, Bd.state]; rfl
  have N0 := Fr.nil n0
  have pre0 : ∀ t, Steps p.tables e below (s₁.setTop (mkF m 0 #[.val (.int u0)] [])) t → Steps p.tables e below (s₁.setTop (entryFrame m #[(.int u0)] 1)) t := fun t k => castTop (ef_1 m u0) k
  by_cases hc3 : u0 = (9 : Int32)
  · have hv : isAl u0 = (1 : Int32) := by
      rw [own_eq (k := 9) (by decide)] at hc3
      unfold isAl
      exact if_pos (by omega)
    obtain ⟨fs, hr, hrun, hended, hW, hsame⟩ := X0.leave (v := some (.int (1 : Int32))) (fun h => by rw [Bd.returns] at h; cases h)
    refine ⟨_, _, pre0 _ ?_, hrun, hended, _, _, rfl, ?_, ⟨_, rfl⟩, hW, hsame.mono (by decide) (by decide)⟩
    · show Steps p.tables e below (s₁.setTop (mkF m 0 #[.val (.int u0)] [])) _
      refine XS.iloadN X0.here hx rfl (hb hby d1_0) rfl ?_
      show Steps p.tables e below (s₁.setTop (mkF m 1 #[.val (.int u0)] [(.int u0)])) _
      refine XS.bipush X0.here hx rfl (hb hby d1_1) ?_
      show Steps p.tables e below (s₁.setTop (mkF m 3 #[.val (.int u0)] [(.int (9 : Int32)), (.int u0)])) _
      refine XS.icmpYes X0.here hx rfl (pc0 := 3) (pc' := 43) rfl (hb hby d1_3) rfl (teq hc3).1 (by decide) (by decide) ?_
      show Steps p.tables e below (s₁.setTop (mkF m 43 #[.val (.int u0)] [])) _
      refine XS.iconst X0.here hx rfl (hb hby d1_43) ?_
      show Steps p.tables e below (s₁.setTop (mkF m 44 #[.val (.int u0)] [(.int (1 : Int32))])) _
      refine XS.goto X0.here hx rfl (pc0 := 44) (pc' := 48) rfl (hb hby d1_44) (by decide) (by decide) ?_
      show Steps p.tables e below (s₁.setTop (mkF m 48 #[.val (.int u0)] [(.int (1 : Int32))])) _
      exact retN X0 hx (t := .boolean) Bd.returns (by simp) (hb hby d1_48) hr
    · show Q1 Z u0 h0 n0 _ s₁.heap _
      rw [e0]
      exact ⟨(by rw [hv]), N0, rfl⟩
  · by_cases hc9 : u0 = (10 : Int32)
    · have hv : isAl u0 = (1 : Int32) := by
        rw [own_eq (k := 9) (by decide)] at hc3
        rw [own_eq (k := 10) (by decide)] at hc9
        unfold isAl
        exact if_pos (by omega)
      obtain ⟨fs, hr, hrun, hended, hW, hsame⟩ := X0.leave (v := some (.int (1 : Int32))) (fun h => by rw [Bd.returns] at h; cases h)
      refine ⟨_, _, pre0 _ ?_, hrun, hended, _, _, rfl, ?_, ⟨_, rfl⟩, hW, hsame.mono (by decide) (by decide)⟩
      · show Steps p.tables e below (s₁.setTop (mkF m 0 #[.val (.int u0)] [])) _
        refine XS.iloadN X0.here hx rfl (hb hby d1_0) rfl ?_
        show Steps p.tables e below (s₁.setTop (mkF m 1 #[.val (.int u0)] [(.int u0)])) _
        refine XS.bipush X0.here hx rfl (hb hby d1_1) ?_
        show Steps p.tables e below (s₁.setTop (mkF m 3 #[.val (.int u0)] [(.int (9 : Int32)), (.int u0)])) _
        refine XS.icmpNo X0.here hx rfl (hb hby d1_3) rfl (feq hc3).1 ?_
        show Steps p.tables e below (s₁.setTop (mkF m 6 #[.val (.int u0)] [])) _
        refine XS.iloadN X0.here hx rfl (hb hby d1_6) rfl ?_
        show Steps p.tables e below (s₁.setTop (mkF m 7 #[.val (.int u0)] [(.int u0)])) _
        refine XS.bipush X0.here hx rfl (hb hby d1_7) ?_
        show Steps p.tables e below (s₁.setTop (mkF m 9 #[.val (.int u0)] [(.int (10 : Int32)), (.int u0)])) _
        refine XS.icmpYes X0.here hx rfl (pc0 := 9) (pc' := 43) rfl (hb hby d1_9) rfl (teq hc9).1 (by decide) (by decide) ?_
        show Steps p.tables e below (s₁.setTop (mkF m 43 #[.val (.int u0)] [])) _
        refine XS.iconst X0.here hx rfl (hb hby d1_43) ?_
        show Steps p.tables e below (s₁.setTop (mkF m 44 #[.val (.int u0)] [(.int (1 : Int32))])) _
        refine XS.goto X0.here hx rfl (pc0 := 44) (pc' := 48) rfl (hb hby d1_44) (by decide) (by decide) ?_
        show Steps p.tables e below (s₁.setTop (mkF m 48 #[.val (.int u0)] [(.int (1 : Int32))])) _
        exact retN X0 hx (t := .boolean) Bd.returns (by simp) (hb hby d1_48) hr
      · show Q1 Z u0 h0 n0 _ s₁.heap _
        rw [e0]
        exact ⟨(by rw [hv]), N0, rfl⟩
    · by_cases hc15 : u0 = (13 : Int32)
      · have hv : isAl u0 = (1 : Int32) := by
          rw [own_eq (k := 9) (by decide)] at hc3
          rw [own_eq (k := 10) (by decide)] at hc9
          rw [own_eq (k := 13) (by decide)] at hc15
          unfold isAl
          exact if_pos (by omega)
        obtain ⟨fs, hr, hrun, hended, hW, hsame⟩ := X0.leave (v := some (.int (1 : Int32))) (fun h => by rw [Bd.returns] at h; cases h)
        refine ⟨_, _, pre0 _ ?_, hrun, hended, _, _, rfl, ?_, ⟨_, rfl⟩, hW, hsame.mono (by decide) (by decide)⟩
        · show Steps p.tables e below (s₁.setTop (mkF m 0 #[.val (.int u0)] [])) _
          refine XS.iloadN X0.here hx rfl (hb hby d1_0) rfl ?_
          show Steps p.tables e below (s₁.setTop (mkF m 1 #[.val (.int u0)] [(.int u0)])) _
          refine XS.bipush X0.here hx rfl (hb hby d1_1) ?_
          show Steps p.tables e below (s₁.setTop (mkF m 3 #[.val (.int u0)] [(.int (9 : Int32)), (.int u0)])) _
          refine XS.icmpNo X0.here hx rfl (hb hby d1_3) rfl (feq hc3).1 ?_
          show Steps p.tables e below (s₁.setTop (mkF m 6 #[.val (.int u0)] [])) _
          refine XS.iloadN X0.here hx rfl (hb hby d1_6) rfl ?_
          show Steps p.tables e below (s₁.setTop (mkF m 7 #[.val (.int u0)] [(.int u0)])) _
          refine XS.bipush X0.here hx rfl (hb hby d1_7) ?_
          show Steps p.tables e below (s₁.setTop (mkF m 9 #[.val (.int u0)] [(.int (10 : Int32)), (.int u0)])) _
          refine XS.icmpNo X0.here hx rfl (hb hby d1_9) rfl (feq hc9).1 ?_
          show Steps p.tables e below (s₁.setTop (mkF m 12 #[.val (.int u0)] [])) _
          refine XS.iloadN X0.here hx rfl (hb hby d1_12) rfl ?_
          show Steps p.tables e below (s₁.setTop (mkF m 13 #[.val (.int u0)] [(.int u0)])) _
          refine XS.bipush X0.here hx rfl (hb hby d1_13) ?_
          show Steps p.tables e below (s₁.setTop (mkF m 15 #[.val (.int u0)] [(.int (13 : Int32)), (.int u0)])) _
          refine XS.icmpYes X0.here hx rfl (pc0 := 15) (pc' := 43) rfl (hb hby d1_15) rfl (teq hc15).1 (by decide) (by decide) ?_
          show Steps p.tables e below (s₁.setTop (mkF m 43 #[.val (.int u0)] [])) _
          refine XS.iconst X0.here hx rfl (hb hby d1_43) ?_
          show Steps p.tables e below (s₁.setTop (mkF m 44 #[.val (.int u0)] [(.int (1 : Int32))])) _
          refine XS.goto X0.here hx rfl (pc0 := 44) (pc' := 48) rfl (hb hby d1_44) (by decide) (by decide) ?_
          show Steps p.tables e below (s₁.setTop (mkF m 48 #[.val (.int u0)] [(.int (1 : Int32))])) _
          exact retN X0 hx (t := .boolean) Bd.returns (by simp) (hb hby d1_48) hr
        · show Q1 Z u0 h0 n0 _ s₁.heap _
          rw [e0]
          exact ⟨(by rw [hv]), N0, rfl⟩
      · by_cases hc21 : u0 < (32 : Int32)
        · have hv : isAl u0 = (0 : Int32) := by
            rw [own_eq (k := 9) (by decide)] at hc3
            rw [own_eq (k := 10) (by decide)] at hc9
            rw [own_eq (k := 13) (by decide)] at hc15
            rw [own_lt (k := 32) (by decide)] at hc21
            unfold isAl
            exact if_neg (by omega)
          obtain ⟨fs, hr, hrun, hended, hW, hsame⟩ := X0.leave (v := some (.int (0 : Int32))) (fun h => by rw [Bd.returns] at h; cases h)
          refine ⟨_, _, pre0 _ ?_, hrun, hended, _, _, rfl, ?_, ⟨_, rfl⟩, hW, hsame.mono (by decide) (by decide)⟩
          · show Steps p.tables e below (s₁.setTop (mkF m 0 #[.val (.int u0)] [])) _
            refine XS.iloadN X0.here hx rfl (hb hby d1_0) rfl ?_
            show Steps p.tables e below (s₁.setTop (mkF m 1 #[.val (.int u0)] [(.int u0)])) _
            refine XS.bipush X0.here hx rfl (hb hby d1_1) ?_
            show Steps p.tables e below (s₁.setTop (mkF m 3 #[.val (.int u0)] [(.int (9 : Int32)), (.int u0)])) _
            refine XS.icmpNo X0.here hx rfl (hb hby d1_3) rfl (feq hc3).1 ?_
            show Steps p.tables e below (s₁.setTop (mkF m 6 #[.val (.int u0)] [])) _
            refine XS.iloadN X0.here hx rfl (hb hby d1_6) rfl ?_
            show Steps p.tables e below (s₁.setTop (mkF m 7 #[.val (.int u0)] [(.int u0)])) _
            refine XS.bipush X0.here hx rfl (hb hby d1_7) ?_
            show Steps p.tables e below (s₁.setTop (mkF m 9 #[.val (.int u0)] [(.int (10 : Int32)), (.int u0)])) _
            refine XS.icmpNo X0.here hx rfl (hb hby d1_9) rfl (feq hc9).1 ?_
            show Steps p.tables e below (s₁.setTop (mkF m 12 #[.val (.int u0)] [])) _
            refine XS.iloadN X0.here hx rfl (hb hby d1_12) rfl ?_
            show Steps p.tables e below (s₁.setTop (mkF m 13 #[.val (.int u0)] [(.int u0)])) _
            refine XS.bipush X0.here hx rfl (hb hby d1_13) ?_
            show Steps p.tables e below (s₁.setTop (mkF m 15 #[.val (.int u0)] [(.int (13 : Int32)), (.int u0)])) _
            refine XS.icmpNo X0.here hx rfl (hb hby d1_15) rfl (feq hc15).1 ?_
            show Steps p.tables e below (s₁.setTop (mkF m 18 #[.val (.int u0)] [])) _
            refine XS.iloadN X0.here hx rfl (hb hby d1_18) rfl ?_
            show Steps p.tables e below (s₁.setTop (mkF m 19 #[.val (.int u0)] [(.int u0)])) _
            refine XS.bipush X0.here hx rfl (hb hby d1_19) ?_
            show Steps p.tables e below (s₁.setTop (mkF m 21 #[.val (.int u0)] [(.int (32 : Int32)), (.int u0)])) _
            refine XS.icmpYes X0.here hx rfl (pc0 := 21) (pc' := 47) rfl (hb hby d1_21) rfl (tlt hc21).1 (by decide) (by decide) ?_
            show Steps p.tables e below (s₁.setTop (mkF m 47 #[.val (.int u0)] [])) _
            refine XS.iconst X0.here hx rfl (hb hby d1_47) ?_
            show Steps p.tables e below (s₁.setTop (mkF m 48 #[.val (.int u0)] [(.int (0 : Int32))])) _
            exact retN X0 hx (t := .boolean) Bd.returns (by simp) (hb hby d1_48) hr
          · show Q1 Z u0 h0 n0 _ s₁.heap _
            rw [e0]
            exact ⟨(by rw [hv]), N0, rfl⟩
        · obtain ⟨_, _, ⟨T1, L1, k1, n1⟩, -, X1, ⟨Lc1, hQ1, l1, y1, z1⟩, st1⟩ := Jvm.LawKit.callS X0 hx (y := (⟨"java/lang/Character", "isSurrogate", "(C)Z"⟩ : MethodName)) hown (mvT hZ (hw _ (List.mem_of_getElem? (i := 7) rfl))) (mvT hZ (hw _ (List.mem_of_getElem? (i := 8) rfl))) (mvT hZ (hw _ (List.mem_of_getElem? (i := 9) rfl))) (mvT hZ (hw _ (List.mem_of_getElem? (i := 10) rfl))) (by decide) (backOf (W := 0) (rm2 l Z a0 hw [] u0 h0 n0 Z0 ) hZ (hw _ (List.mem_of_getElem? (i := 10) rfl)) (hw _ (List.mem_of_getElem? (i := 9) rfl)) (by decide) (by decide)) (g := (mkF m 25 #[.val (.int u0)] [(.int u0)])) rfl (by rw [hml]; rfl) (argsL := [(.int u0)]) (rest := []) (lenOf pd_0 rfl) rfl (by show 2 * 0 + _ ≤ _; exact Nat.le_of_eq rfl) (hb hby d1_25) (fun _ _ => ⟨rfl, e0, (by decide : 0 + 0 ≤ _), (by decide : 0 + 0 ≤ _)⟩)
          dsimp only [Pt.U, Pt.locs, Pt.cells, Pt.slots] at X1 l1 y1 z1 st1 hQ1
          subst l1 y1 z1
          obtain ⟨rfl, N1q, e1⟩ := hQ1
          have N1 := Fr.app N0 N1q
          by_cases hc28 : (isSur u0) = (0 : Int32)
          · have st2 := X1.ldcInt hx hown (mvT hZ (hw _ (List.mem_of_getElem? (i := 12) rfl))) (g := (mkF m 32 #[.val (.int u0)] [(.int u0)])) rfl (hb hby d1_32)
            by_cases hc34 : u0 = (65534 : Int32)
            · have hv : isAl u0 = (0 : Int32) := by
                rw [own_eq (k := 9) (by decide)] at hc3
                rw [own_eq (k := 10) (by decide)] at hc9
                rw [own_eq (k := 13) (by decide)] at hc15
                rw [own_lt (k := 32) (by decide)] at hc21
                replace hc28 := own_sur0 hc28
                rw [own_eq (k := 65534) (by decide)] at hc34
                unfold isAl
                exact if_neg (by omega)
              obtain ⟨fs, hr, hrun, hended, hW, hsame⟩ := X1.leave (v := some (.int (0 : Int32))) (fun h => by rw [Bd.returns] at h; cases h)
              refine ⟨_, _, pre0 _ ?_, hrun, hended, _, _, rfl, ?_, ⟨_, rfl⟩, hW, hsame.mono (by decide) (by decide)⟩
              · show Steps p.tables e below (s₁.setTop (mkF m 0 #[.val (.int u0)] [])) _
                refine XS.iloadN X0.here hx rfl (hb hby d1_0) rfl ?_
                show Steps p.tables e below (s₁.setTop (mkF m 1 #[.val (.int u0)] [(.int u0)])) _
                refine XS.bipush X0.here hx rfl (hb hby d1_1) ?_
                show Steps p.tables e below (s₁.setTop (mkF m 3 #[.val (.int u0)] [(.int (9 : Int32)), (.int u0)])) _
                refine XS.icmpNo X0.here hx rfl (hb hby d1_3) rfl (feq hc3).1 ?_
                show Steps p.tables e below (s₁.setTop (mkF m 6 #[.val (.int u0)] [])) _
                refine XS.iloadN X0.here hx rfl (hb hby d1_6) rfl ?_
                show Steps p.tables e below (s₁.setTop (mkF m 7 #[.val (.int u0)] [(.int u0)])) _
                refine XS.bipush X0.here hx rfl (hb hby d1_7) ?_
                show Steps p.tables e below (s₁.setTop (mkF m 9 #[.val (.int u0)] [(.int (10 : Int32)), (.int u0)])) _
                refine XS.icmpNo X0.here hx rfl (hb hby d1_9) rfl (feq hc9).1 ?_
                show Steps p.tables e below (s₁.setTop (mkF m 12 #[.val (.int u0)] [])) _
                refine XS.iloadN X0.here hx rfl (hb hby d1_12) rfl ?_
                show Steps p.tables e below (s₁.setTop (mkF m 13 #[.val (.int u0)] [(.int u0)])) _
                refine XS.bipush X0.here hx rfl (hb hby d1_13) ?_
                show Steps p.tables e below (s₁.setTop (mkF m 15 #[.val (.int u0)] [(.int (13 : Int32)), (.int u0)])) _
                refine XS.icmpNo X0.here hx rfl (hb hby d1_15) rfl (feq hc15).1 ?_
                show Steps p.tables e below (s₁.setTop (mkF m 18 #[.val (.int u0)] [])) _
                refine XS.iloadN X0.here hx rfl (hb hby d1_18) rfl ?_
                show Steps p.tables e below (s₁.setTop (mkF m 19 #[.val (.int u0)] [(.int u0)])) _
                refine XS.bipush X0.here hx rfl (hb hby d1_19) ?_
                show Steps p.tables e below (s₁.setTop (mkF m 21 #[.val (.int u0)] [(.int (32 : Int32)), (.int u0)])) _
                refine XS.icmpNo X0.here hx rfl (hb hby d1_21) rfl (flt hc21).1 ?_
                show Steps p.tables e below (s₁.setTop (mkF m 24 #[.val (.int u0)] [])) _
                refine XS.iloadN X0.here hx rfl (hb hby d1_24) rfl ?_
                show Steps p.tables e below (s₁.setTop (mkF m 25 #[.val (.int u0)] [(.int u0)])) _
                refine st1 _ ?_
                show Steps p.tables e below (T1.setTop (mkF m 28 #[.val (.int u0)] [(.int (isSur u0))])) _
                refine XS.ifNo X1.here hx rfl (hb hby d1_28) rfl ((if0 _ _).trans (teq hc28).2) ?_
                show Steps p.tables e below (T1.setTop (mkF m 31 #[.val (.int u0)] [])) _
                refine XS.iloadN X1.here hx rfl (hb hby d1_31) rfl ?_
                show Steps p.tables e below (T1.setTop (mkF m 32 #[.val (.int u0)] [(.int u0)])) _
                refine st2 _ ?_
                show Steps p.tables e below (T1.setTop (mkF m 34 #[.val (.int u0)] [(.int (65534 : Int32)), (.int u0)])) _
                refine XS.icmpYes X1.here hx rfl (pc0 := 34) (pc' := 47) rfl (hb hby d1_34) rfl (teq hc34).1 (by decide) (by decide) ?_
                show Steps p.tables e below (T1.setTop (mkF m 47 #[.val (.int u0)] [])) _
                refine XS.iconst X1.here hx rfl (hb hby d1_47) ?_
                show Steps p.tables e below (T1.setTop (mkF m 48 #[.val (.int u0)] [(.int (0 : Int32))])) _
                exact retN X1 hx (t := .boolean) Bd.returns (by simp) (hb hby d1_48) hr
              · show Q1 Z u0 h0 n0 _ T1.heap _
                rw [e1]
                exact ⟨(by rw [hv]), N1, rfl⟩
            · have st3 := X1.ldcInt hx hown (mvT hZ (hw _ (List.mem_of_getElem? (i := 13) rfl))) (g := (mkF m 38 #[.val (.int u0)] [(.int u0)])) rfl (hb hby d1_38)
              by_cases hc40 : u0 = (65535 : Int32)
              · have hv : isAl u0 = (0 : Int32) := by
                  rw [own_eq (k := 9) (by decide)] at hc3
                  rw [own_eq (k := 10) (by decide)] at hc9
                  rw [own_eq (k := 13) (by decide)] at hc15
                  rw [own_lt (k := 32) (by decide)] at hc21
                  replace hc28 := own_sur0 hc28
                  rw [own_eq (k := 65534) (by decide)] at hc34
                  rw [own_eq (k := 65535) (by decide)] at hc40
                  unfold isAl
                  exact if_neg (by omega)
                obtain ⟨fs, hr, hrun, hended, hW, hsame⟩ := X1.leave (v := some (.int (0 : Int32))) (fun h => by rw [Bd.returns] at h; cases h)
                refine ⟨_, _, pre0 _ ?_, hrun, hended, _, _, rfl, ?_, ⟨_, rfl⟩, hW, hsame.mono (by decide) (by decide)⟩
                · show Steps p.tables e below (s₁.setTop (mkF m 0 #[.val (.int u0)] [])) _
                  refine XS.iloadN X0.here hx rfl (hb hby d1_0) rfl ?_
                  show Steps p.tables e below (s₁.setTop (mkF m 1 #[.val (.int u0)] [(.int u0)])) _
                  refine XS.bipush X0.here hx rfl (hb hby d1_1) ?_
                  show Steps p.tables e below (s₁.setTop (mkF m 3 #[.val (.int u0)] [(.int (9 : Int32)), (.int u0)])) _
                  refine XS.icmpNo X0.here hx rfl (hb hby d1_3) rfl (feq hc3).1 ?_
                  show Steps p.tables e below (s₁.setTop (mkF m 6 #[.val (.int u0)] [])) _
                  refine XS.iloadN X0.here hx rfl (hb hby d1_6) rfl ?_
                  show Steps p.tables e below (s₁.setTop (mkF m 7 #[.val (.int u0)] [(.int u0)])) _
                  refine XS.bipush X0.here hx rfl (hb hby d1_7) ?_
                  show Steps p.tables e below (s₁.setTop (mkF m 9 #[.val (.int u0)] [(.int (10 : Int32)), (.int u0)])) _
                  refine XS.icmpNo X0.here hx rfl (hb hby d1_9) rfl (feq hc9).1 ?_
                  show Steps p.tables e below (s₁.setTop (mkF m 12 #[.val (.int u0)] [])) _
                  refine XS.iloadN X0.here hx rfl (hb hby d1_12) rfl ?_
                  show Steps p.tables e below (s₁.setTop (mkF m 13 #[.val (.int u0)] [(.int u0)])) _
                  refine XS.bipush X0.here hx rfl (hb hby d1_13) ?_
                  show Steps p.tables e below (s₁.setTop (mkF m 15 #[.val (.int u0)] [(.int (13 : Int32)), (.int u0)])) _
                  refine XS.icmpNo X0.here hx rfl (hb hby d1_15) rfl (feq hc15).1 ?_
                  show Steps p.tables e below (s₁.setTop (mkF m 18 #[.val (.int u0)] [])) _
                  refine XS.iloadN X0.here hx rfl (hb hby d1_18) rfl ?_
                  show Steps p.tables e below (s₁.setTop (mkF m 19 #[.val (.int u0)] [(.int u0)])) _
                  refine XS.bipush X0.here hx rfl (hb hby d1_19) ?_
                  show Steps p.tables e below (s₁.setTop (mkF m 21 #[.val (.int u0)] [(.int (32 : Int32)), (.int u0)])) _
                  refine XS.icmpNo X0.here hx rfl (hb hby d1_21) rfl (flt hc21).1 ?_
                  show Steps p.tables e below (s₁.setTop (mkF m 24 #[.val (.int u0)] [])) _
                  refine XS.iloadN X0.here hx rfl (hb hby d1_24) rfl ?_
                  show Steps p.tables e below (s₁.setTop (mkF m 25 #[.val (.int u0)] [(.int u0)])) _
                  refine st1 _ ?_
                  show Steps p.tables e below (T1.setTop (mkF m 28 #[.val (.int u0)] [(.int (isSur u0))])) _
                  refine XS.ifNo X1.here hx rfl (hb hby d1_28) rfl ((if0 _ _).trans (teq hc28).2) ?_
                  show Steps p.tables e below (T1.setTop (mkF m 31 #[.val (.int u0)] [])) _
                  refine XS.iloadN X1.here hx rfl (hb hby d1_31) rfl ?_
                  show Steps p.tables e below (T1.setTop (mkF m 32 #[.val (.int u0)] [(.int u0)])) _
                  refine st2 _ ?_
                  show Steps p.tables e below (T1.setTop (mkF m 34 #[.val (.int u0)] [(.int (65534 : Int32)), (.int u0)])) _
                  refine XS.icmpNo X1.here hx rfl (hb hby d1_34) rfl (feq hc34).1 ?_
                  show Steps p.tables e below (T1.setTop (mkF m 37 #[.val (.int u0)] [])) _
                  refine XS.iloadN X1.here hx rfl (hb hby d1_37) rfl ?_
                  show Steps p.tables e below (T1.setTop (mkF m 38 #[.val (.int u0)] [(.int u0)])) _
                  refine st3 _ ?_
                  show Steps p.tables e below (T1.setTop (mkF m 40 #[.val (.int u0)] [(.int (65535 : Int32)), (.int u0)])) _
                  refine XS.icmpYes X1.here hx rfl (pc0 := 40) (pc' := 47) rfl (hb hby d1_40) rfl (teq hc40).1 (by decide) (by decide) ?_
                  show Steps p.tables e below (T1.setTop (mkF m 47 #[.val (.int u0)] [])) _
                  refine XS.iconst X1.here hx rfl (hb hby d1_47) ?_
                  show Steps p.tables e below (T1.setTop (mkF m 48 #[.val (.int u0)] [(.int (0 : Int32))])) _
                  exact retN X1 hx (t := .boolean) Bd.returns (by simp) (hb hby d1_48) hr
                · show Q1 Z u0 h0 n0 _ T1.heap _
                  rw [e1]
                  exact ⟨(by rw [hv]), N1, rfl⟩
              · have hv : isAl u0 = (1 : Int32) := by
                  rw [own_eq (k := 9) (by decide)] at hc3
                  rw [own_eq (k := 10) (by decide)] at hc9
                  rw [own_eq (k := 13) (by decide)] at hc15
                  rw [own_lt (k := 32) (by decide)] at hc21
                  replace hc28 := own_sur0 hc28
                  rw [own_eq (k := 65534) (by decide)] at hc34
                  rw [own_eq (k := 65535) (by decide)] at hc40
                  unfold isAl
                  exact if_pos (by omega)
                obtain ⟨fs, hr, hrun, hended, hW, hsame⟩ := X1.leave (v := some (.int (1 : Int32))) (fun h => by rw [Bd.returns] at h; cases h)
                refine ⟨_, _, pre0 _ ?_, hrun, hended, _, _, rfl, ?_, ⟨_, rfl⟩, hW, hsame.mono (by decide) (by decide)⟩
                · show Steps p.tables e below (s₁.setTop (mkF m 0 #[.val (.int u0)] [])) _
                  refine XS.iloadN X0.here hx rfl (hb hby d1_0) rfl ?_
                  show Steps p.tables e below (s₁.setTop (mkF m 1 #[.val (.int u0)] [(.int u0)])) _
                  refine XS.bipush X0.here hx rfl (hb hby d1_1) ?_
                  show Steps p.tables e below (s₁.setTop (mkF m 3 #[.val (.int u0)] [(.int (9 : Int32)), (.int u0)])) _
                  refine XS.icmpNo X0.here hx rfl (hb hby d1_3) rfl (feq hc3).1 ?_
                  show Steps p.tables e below (s₁.setTop (mkF m 6 #[.val (.int u0)] [])) _
                  refine XS.iloadN X0.here hx rfl (hb hby d1_6) rfl ?_
                  show Steps p.tables e below (s₁.setTop (mkF m 7 #[.val (.int u0)] [(.int u0)])) _
                  refine XS.bipush X0.here hx rfl (hb hby d1_7) ?_
                  show Steps p.tables e below (s₁.setTop (mkF m 9 #[.val (.int u0)] [(.int (10 : Int32)), (.int u0)])) _
                  refine XS.icmpNo X0.here hx rfl (hb hby d1_9) rfl (feq hc9).1 ?_
                  show Steps p.tables e below (s₁.setTop (mkF m 12 #[.val (.int u0)] [])) _
                  refine XS.iloadN X0.here hx rfl (hb hby d1_12) rfl ?_
                  show Steps p.tables e below (s₁.setTop (mkF m 13 #[.val (.int u0)] [(.int u0)])) _
                  refine XS.bipush X0.here hx rfl (hb hby d1_13) ?_
                  show Steps p.tables e below (s₁.setTop (mkF m 15 #[.val (.int u0)] [(.int (13 : Int32)), (.int u0)])) _
                  refine XS.icmpNo X0.here hx rfl (hb hby d1_15) rfl (feq hc15).1 ?_
                  show Steps p.tables e below (s₁.setTop (mkF m 18 #[.val (.int u0)] [])) _
                  refine XS.iloadN X0.here hx rfl (hb hby d1_18) rfl ?_
                  show Steps p.tables e below (s₁.setTop (mkF m 19 #[.val (.int u0)] [(.int u0)])) _
                  refine XS.bipush X0.here hx rfl (hb hby d1_19) ?_
                  show Steps p.tables e below (s₁.setTop (mkF m 21 #[.val (.int u0)] [(.int (32 : Int32)), (.int u0)])) _
                  refine XS.icmpNo X0.here hx rfl (hb hby d1_21) rfl (flt hc21).1 ?_
                  show Steps p.tables e below (s₁.setTop (mkF m 24 #[.val (.int u0)] [])) _
                  refine XS.iloadN X0.here hx rfl (hb hby d1_24) rfl ?_
                  show Steps p.tables e below (s₁.setTop (mkF m 25 #[.val (.int u0)] [(.int u0)])) _
                  refine st1 _ ?_
                  show Steps p.tables e below (T1.setTop (mkF m 28 #[.val (.int u0)] [(.int (isSur u0))])) _
                  refine XS.ifNo X1.here hx rfl (hb hby d1_28) rfl ((if0 _ _).trans (teq hc28).2) ?_
                  show Steps p.tables e below (T1.setTop (mkF m 31 #[.val (.int u0)] [])) _
                  refine XS.iloadN X1.here hx rfl (hb hby d1_31) rfl ?_
                  show Steps p.tables e below (T1.setTop (mkF m 32 #[.val (.int u0)] [(.int u0)])) _
                  refine st2 _ ?_
                  show Steps p.tables e below (T1.setTop (mkF m 34 #[.val (.int u0)] [(.int (65534 : Int32)), (.int u0)])) _
                  refine XS.icmpNo X1.here hx rfl (hb hby d1_34) rfl (feq hc34).1 ?_
                  show Steps p.tables e below (T1.setTop (mkF m 37 #[.val (.int u0)] [])) _
                  refine XS.iloadN X1.here hx rfl (hb hby d1_37) rfl ?_
                  show Steps p.tables e below (T1.setTop (mkF m 38 #[.val (.int u0)] [(.int u0)])) _
                  refine st3 _ ?_
                  show Steps p.tables e below (T1.setTop (mkF m 40 #[.val (.int u0)] [(.int (65535 : Int32)), (.int u0)])) _
                  refine XS.icmpNo X1.here hx rfl (hb hby d1_40) rfl (feq hc40).1 ?_
                  show Steps p.tables e below (T1.setTop (mkF m 43 #[.val (.int u0)] [])) _
                  refine XS.iconst X1.here hx rfl (hb hby d1_43) ?_
                  show Steps p.tables e below (T1.setTop (mkF m 44 #[.val (.int u0)] [(.int (1 : Int32))])) _
                  refine XS.goto X1.here hx rfl (pc0 := 44) (pc' := 48) rfl (hb hby d1_44) (by decide) (by decide) ?_
                  show Steps p.tables e below (T1.setTop (mkF m 48 #[.val (.int u0)] [(.int (1 : Int32))])) _
                  exact retN X1 hx (t := .boolean) Bd.returns (by simp) (hb hby d1_48) hr
                · show Q1 Z u0 h0 n0 _ T1.heap _
                  rw [e1]
                  exact ⟨(by rw [hv]), N1, rfl⟩
          · have hv : isAl u0 = (0 : Int32) := by
              rw [own_eq (k := 9) (by decide)] at hc3
              rw [own_eq (k := 10) (by decide)] at hc9
              rw [own_eq (k := 13) (by decide)] at hc15
              rw [own_lt (k := 32) (by decide)] at hc21
              replace hc28 := own_sur1 hc28
              unfold isAl
              exact if_neg (by omega)
            obtain ⟨fs, hr, hrun, hended, hW, hsame⟩ := X1.leave (v := some (.int (0 : Int32))) (fun h => by rw [Bd.returns] at h; cases h)
            refine ⟨_, _, pre0 _ ?_, hrun, hended, _, _, rfl, ?_, ⟨_, rfl⟩, hW, hsame.mono (by decide) (by decide)⟩
            · show Steps p.tables e below (s₁.setTop (mkF m 0 #[.val (.int u0)] [])) _
              refine XS.iloadN X0.here hx rfl (hb hby d1_0) rfl ?_
              show Steps p.tables e below (s₁.setTop (mkF m 1 #[.val (.int u0)] [(.int u0)])) _
              refine XS.bipush X0.here hx rfl (hb hby d1_1) ?_
              show Steps p.tables e below (s₁.setTop (mkF m 3 #[.val (.int u0)] [(.int (9 : Int32)), (.int u0)])) _
              refine XS.icmpNo X0.here hx rfl (hb hby d1_3) rfl (feq hc3).1 ?_
              show Steps p.tables e below (s₁.setTop (mkF m 6 #[.val (.int u0)] [])) _
              refine XS.iloadN X0.here hx rfl (hb hby d1_6) rfl ?_
              show Steps p.tables e below (s₁.setTop (mkF m 7 #[.val (.int u0)] [(.int u0)])) _
              refine XS.bipush X0.here hx rfl (hb hby d1_7) ?_
              show Steps p.tables e below (s₁.setTop (mkF m 9 #[.val (.int u0)] [(.int (10 : Int32)), (.int u0)])) _
              refine XS.icmpNo X0.here hx rfl (hb hby d1_9) rfl (feq hc9).1 ?_
              show Steps p.tables e below (s₁.setTop (mkF m 12 #[.val (.int u0)] [])) _
              refine XS.iloadN X0.here hx rfl (hb hby d1_12) rfl ?_
              show Steps p.tables e below (s₁.setTop (mkF m 13 #[.val (.int u0)] [(.int u0)])) _
              refine XS.bipush X0.here hx rfl (hb hby d1_13) ?_
              show Steps p.tables e below (s₁.setTop (mkF m 15 #[.val (.int u0)] [(.int (13 : Int32)), (.int u0)])) _
              refine XS.icmpNo X0.here hx rfl (hb hby d1_15) rfl (feq hc15).1 ?_
              show Steps p.tables e below (s₁.setTop (mkF m 18 #[.val (.int u0)] [])) _
              refine XS.iloadN X0.here hx rfl (hb hby d1_18) rfl ?_
              show Steps p.tables e below (s₁.setTop (mkF m 19 #[.val (.int u0)] [(.int u0)])) _
              refine XS.bipush X0.here hx rfl (hb hby d1_19) ?_
              show Steps p.tables e below (s₁.setTop (mkF m 21 #[.val (.int u0)] [(.int (32 : Int32)), (.int u0)])) _
              refine XS.icmpNo X0.here hx rfl (hb hby d1_21) rfl (flt hc21).1 ?_
              show Steps p.tables e below (s₁.setTop (mkF m 24 #[.val (.int u0)] [])) _
              refine XS.iloadN X0.here hx rfl (hb hby d1_24) rfl ?_
              show Steps p.tables e below (s₁.setTop (mkF m 25 #[.val (.int u0)] [(.int u0)])) _
              refine st1 _ ?_
              show Steps p.tables e below (T1.setTop (mkF m 28 #[.val (.int u0)] [(.int (isSur u0))])) _
              refine XS.ifYes X1.here hx rfl (pc0 := 28) (pc' := 47) rfl (hb hby d1_28) rfl ((if0 _ _).trans (feq hc28).2) (by decide) (by decide) ?_
              show Steps p.tables e below (T1.setTop (mkF m 47 #[.val (.int u0)] [])) _
              refine XS.iconst X1.here hx rfl (hb hby d1_47) ?_
              show Steps p.tables e below (T1.setTop (mkF m 48 #[.val (.int u0)] [(.int (0 : Int32))])) _
              exact retN X1 hx (t := .boolean) Bd.returns (by simp) (hb hby d1_48) hr
            · show Q1 Z u0 h0 n0 _ T1.heap _
              rw [e1]
              exact ⟨(by rw [hv]), N1, rfl⟩
theorem pn_com_example_rehydra_rehydra_XmlTextIsAllowedAlonePinLaw : plainName "com/example/rehydra/rehydra/XmlTextIsAllowedAlonePinLaw" = true := by first | (simp [plainName, overriddenIn]; done) | decide +kernel
theorem ef_0 (m : MethodId) (u0 : Int32) : entryFrame m #[(.int u0)] maxLocals = mkF m 0 #[.val (.int u0), .unset, .unset, .unset] [] := by first | (simp [entryFrame, mkF, argsToLocals, Value.category, maxLocals]; done) | rfl
def Q0 (Z : State) (u0 : Int32) (h0 : Heap) (n0 : Nat) (v : Option Value) (h : Heap) (L : List Loc) : Prop := v = some (.int (1 : Int32)) ∧ Fr n0 L
set_option maxRecDepth 65536 in
set_option maxHeartbeats 40000000 in
theorem rm0 (l : Launch) (Z : State) (a0 : Array Value) (hw : ∀ d ∈ tables_1, d.before a0 Z = true) (ws : List Jvm.Cond) (u0 : Int32) (h0 : Heap) (n0 : Nat) (Z0 : n0 ≤ h0.size) :
    MetFree l x (head1 (Jvm.Cond.code x code maxLocals ret :: ws) room_1) (fun a U => a = #[(.int u0)] ∧ Z.Warmed39 U.vm ∧ U.heap = h0) (fun _ _ _ _ _ => True) (fun _ U o U' => ∃ v L, o = .returned v ∧ Q0 Z u0 h0 n0 v U'.heap L ∧ FrameEnd U o U' L room_1.cells room_1.slots) := by
  refine MetFree.of_bodySF (plainFor_of_name pn_com_example_rehydra_rehydra_XmlTextIsAllowedAlonePinLaw) hisR ?_
  intro p e s m args below meth c s₁ Bd hml0 hP hK
  obtain ⟨rfl, hZ, hh⟩ := hP
  have hx := Bd.exec
  have hby := Bd.bytes
  have hml : c.maxLocals = 4 := hml0
  have hown : s.vm.findClass "com/example/rehydra/rehydra/XmlTextIsAllowedAlonePinLaw" = some m.cls := findClass_of_methodNamed Bd.named
  have hnm := (name_of_methodNamed Bd.named Bd.method).1
  have X0 : Stand p l e room_1 s m #[(.int u0)] below meth c s₁ [] 0 0 := Stand.of_body Bd
  have e0 : s₁.heap = h0 := by rw [← hh, Bd.state]; rfl
  have N0 := Fr.nil n0
  have pre0 : ∀ t, Steps p.tables e below (s₁.setTop (mkF m 0 #[.val (.int u0), .unset, .unset, .unset] [])) t → Steps p.tables e below (s₁.setTop (entryFrame m #[(.int u0)] maxLocals)) t := fun t k => castTop (ef_0 m u0) k
  have st1 := X0.ldcInt hx hown (mvT hZ (hw _ (List.mem_of_getElem? (i := 0) rfl))) (g := (mkF m 1 #[.val (.int u0), .unset, .unset, .unset] [(.int u0)])) rfl (hb hby at_1)
  by_cases hc11 : (u0 &&& (65535 : Int32)) = (9 : Int32)
  · obtain ⟨_, _, ⟨T2, L2, k2, n2⟩, -, X2, ⟨Lc2, hQ2, l2, y2, z2⟩, st2⟩ := Jvm.LawKit.callS X0 hx (y := (⟨"com/example/rehydra/rehydra/XmlText", "isAllowedAlone", "(C)Z"⟩ : MethodName)) hown (mvT hZ (hw _ (List.mem_of_getElem? (i := 2) rfl))) (mvT hZ (hw _ (List.mem_of_getElem? (i := 3) rfl))) (mvT hZ (hw _ (List.mem_of_getElem? (i := 4) rfl))) (mvT hZ (hw _ (List.mem_of_getElem? (i := 5) rfl))) (by decide) (backOf (W := 0) (rm1 l Z a0 hw [] ((u0 &&& (65535 : Int32)).toUInt32.toUInt16.toUInt32.toInt32) h0 n0 Z0 ) hZ (hw _ (List.mem_of_getElem? (i := 5) rfl)) (hw _ (List.mem_of_getElem? (i := 4) rfl)) (by decide) (by decide)) (g := (mkF m 57 #[.val (.int u0), .val (.int (u0 &&& (65535 : Int32))), .val (.int ((u0 &&& (65535 : Int32)).toUInt32.toUInt16.toUInt32.toInt32)), .val (.int (1 : Int32))] [(.int ((u0 &&& (65535 : Int32)).toUInt32.toUInt16.toUInt32.toInt32))])) rfl (by rw [hml]; rfl) (argsL := [(.int ((u0 &&& (65535 : Int32)).toUInt32.toUInt16.toUInt32.toInt32))]) (rest := []) (lenOf pd_0 rfl) rfl (by show 2 * 0 + _ ≤ _; exact Nat.le_of_eq rfl) (hb hby at_57) (fun _ _ => ⟨rfl, e0, (by decide : 0 + 0 ≤ _), (by decide : 0 + 0 ≤ _)⟩)
    dsimp only [Pt.U, Pt.locs, Pt.cells, Pt.slots] at X2 l2 y2 z2 st2 hQ2
    subst l2 y2 z2
    obtain ⟨rfl, N2q, e2⟩ := hQ2
    have N2 := Fr.app N0 N2q
    have hb61 : (isAl ((u0 &&& (65535 : Int32)).toUInt32.toUInt16.toUInt32.toInt32)) = (1 : Int32) := by
      rw [own_eq (k := 9) (by decide)] at hc11
      obtain ⟨q0, q1⟩ := own_code u0
      have q2 := own_i2c _ q0 q1
      unfold isAl
      exact if_pos (by rw [q2]; omega)
    obtain ⟨fs, hr, hrun, hended, hW, hsame⟩ := X2.leave (v := some (.int (1 : Int32))) (fun h => by rw [Bd.returns] at h; cases h)
    refine ⟨_, _, pre0 _ ?_, hrun, hended, _, _, rfl, ?_, ⟨_, rfl⟩, hW, hsame.mono (by decide) (by decide)⟩
    · show Steps p.tables e below (s₁.setTop (mkF m 0 #[.val (.int u0), .unset, .unset, .unset] [])) _
      refine XS.iloadN X0.here hx rfl (hb hby at_0) rfl ?_
      show Steps p.tables e below (s₁.setTop (mkF m 1 #[.val (.int u0), .unset, .unset, .unset] [(.int u0)])) _
      refine st1 _ ?_
      show Steps p.tables e below (s₁.setTop (mkF m 3 #[.val (.int u0), .unset, .unset, .unset] [(.int (65535 : Int32)), (.int u0)])) _
      refine XS.iand X0.here hx rfl (hb hby at_3) rfl ?_
      show Steps p.tables e below (s₁.setTop (mkF m 4 #[.val (.int u0), .unset, .unset, .unset] [(.int (u0 &&& (65535 : Int32)))])) _
      refine XS.istoreN X0.here hx rfl (hb hby at_4) rfl (l' := #[.val (.int u0), .val (.int (u0 &&& (65535 : Int32))), .unset, .unset]) rfl ?_
      show Steps p.tables e below (s₁.setTop (mkF m 5 #[.val (.int u0), .val (.int (u0 &&& (65535 : Int32))), .unset, .unset] [])) _
      refine XS.iloadN X0.here hx rfl (hb hby at_5) rfl ?_
      show Steps p.tables e below (s₁.setTop (mkF m 6 #[.val (.int u0), .val (.int (u0 &&& (65535 : Int32))), .unset, .unset] [(.int (u0 &&& (65535 : Int32)))])) _
      refine XS.i2c X0.here hx rfl (hb hby at_6) rfl ?_
      show Steps p.tables e below (s₁.setTop (mkF m 7 #[.val (.int u0), .val (.int (u0 &&& (65535 : Int32))), .unset, .unset] [(.int ((u0 &&& (65535 : Int32)).toUInt32.toUInt16.toUInt32.toInt32))])) _
      refine XS.istoreN X0.here hx rfl (hb hby at_7) rfl (l' := #[.val (.int u0), .val (.int (u0 &&& (65535 : Int32))), .val (.int ((u0 &&& (65535 : Int32)).toUInt32.toUInt16.toUInt32.toInt32)), .unset]) rfl ?_
      show Steps p.tables e below (s₁.setTop (mkF m 8 #[.val (.int u0), .val (.int (u0 &&& (65535 : Int32))), .val (.int ((u0 &&& (65535 : Int32)).toUInt32.toUInt16.toUInt32.toInt32)), .unset] [])) _
      refine XS.iloadN X0.here hx rfl (hb hby at_8) rfl ?_
      show Steps p.tables e below (s₁.setTop (mkF m 9 #[.val (.int u0), .val (.int (u0 &&& (65535 : Int32))), .val (.int ((u0 &&& (65535 : Int32)).toUInt32.toUInt16.toUInt32.toInt32)), .unset] [(.int (u0 &&& (65535 : Int32)))])) _
      refine XS.bipush X0.here hx rfl (hb hby at_9) ?_
      show Steps p.tables e below (s₁.setTop (mkF m 11 #[.val (.int u0), .val (.int (u0 &&& (65535 : Int32))), .val (.int ((u0 &&& (65535 : Int32)).toUInt32.toUInt16.toUInt32.toInt32)), .unset] [(.int (9 : Int32)), (.int (u0 &&& (65535 : Int32)))])) _
      refine XS.icmpYes X0.here hx rfl (pc0 := 11) (pc' := 50) rfl (hb hby at_11) rfl (teq hc11).1 (by decide) (by decide) ?_
      show Steps p.tables e below (s₁.setTop (mkF m 50 #[.val (.int u0), .val (.int (u0 &&& (65535 : Int32))), .val (.int ((u0 &&& (65535 : Int32)).toUInt32.toUInt16.toUInt32.toInt32)), .unset] [])) _
      refine XS.iconst X0.here hx rfl (hb hby at_50) ?_
      show Steps p.tables e below (s₁.setTop (mkF m 51 #[.val (.int u0), .val (.int (u0 &&& (65535 : Int32))), .val (.int ((u0 &&& (65535 : Int32)).toUInt32.toUInt16.toUInt32.toInt32)), .unset] [(.int (1 : Int32))])) _
      refine XS.goto X0.here hx rfl (pc0 := 51) (pc' := 55) rfl (hb hby at_51) (by decide) (by decide) ?_
      show Steps p.tables e below (s₁.setTop (mkF m 55 #[.val (.int u0), .val (.int (u0 &&& (65535 : Int32))), .val (.int ((u0 &&& (65535 : Int32)).toUInt32.toUInt16.toUInt32.toInt32)), .unset] [(.int (1 : Int32))])) _
      refine XS.istoreN X0.here hx rfl (hb hby at_55) rfl (l' := #[.val (.int u0), .val (.int (u0 &&& (65535 : Int32))), .val (.int ((u0 &&& (65535 : Int32)).toUInt32.toUInt16.toUInt32.toInt32)), .val (.int (1 : Int32))]) rfl ?_
      show Steps p.tables e below (s₁.setTop (mkF m 56 #[.val (.int u0), .val (.int (u0 &&& (65535 : Int32))), .val (.int ((u0 &&& (65535 : Int32)).toUInt32.toUInt16.toUInt32.toInt32)), .val (.int (1 : Int32))] [])) _
      refine XS.iloadN X0.here hx rfl (hb hby at_56) rfl ?_
      show Steps p.tables e below (s₁.setTop (mkF m 57 #[.val (.int u0), .val (.int (u0 &&& (65535 : Int32))), .val (.int ((u0 &&& (65535 : Int32)).toUInt32.toUInt16.toUInt32.toInt32)), .val (.int (1 : Int32))] [(.int ((u0 &&& (65535 : Int32)).toUInt32.toUInt16.toUInt32.toInt32))])) _
      refine st2 _ ?_
      show Steps p.tables e below (T2.setTop (mkF m 60 #[.val (.int u0), .val (.int (u0 &&& (65535 : Int32))), .val (.int ((u0 &&& (65535 : Int32)).toUInt32.toUInt16.toUInt32.toInt32)), .val (.int (1 : Int32))] [(.int (isAl ((u0 &&& (65535 : Int32)).toUInt32.toUInt16.toUInt32.toInt32)))])) _
      refine XS.iloadN X2.here hx rfl (hb hby at_60) rfl ?_
      show Steps p.tables e below (T2.setTop (mkF m 61 #[.val (.int u0), .val (.int (u0 &&& (65535 : Int32))), .val (.int ((u0 &&& (65535 : Int32)).toUInt32.toUInt16.toUInt32.toInt32)), .val (.int (1 : Int32))] [(.int (1 : Int32)), (.int (isAl ((u0 &&& (65535 : Int32)).toUInt32.toUInt16.toUInt32.toInt32)))])) _
      refine XS.icmpNo X2.here hx rfl (hb hby at_61) rfl (teq hb61).2 ?_
      show Steps p.tables e below (T2.setTop (mkF m 64 #[.val (.int u0), .val (.int (u0 &&& (65535 : Int32))), .val (.int ((u0 &&& (65535 : Int32)).toUInt32.toUInt16.toUInt32.toInt32)), .val (.int (1 : Int32))] [])) _
      refine XS.iconst X2.here hx rfl (hb hby at_64) ?_
      show Steps p.tables e below (T2.setTop (mkF m 65 #[.val (.int u0), .val (.int (u0 &&& (65535 : Int32))), .val (.int ((u0 &&& (65535 : Int32)).toUInt32.toUInt16.toUInt32.toInt32)), .val (.int (1 : Int32))] [(.int (1 : Int32))])) _
      refine XS.goto X2.here hx rfl (pc0 := 65) (pc' := 69) rfl (hb hby at_65) (by decide) (by decide) ?_
      show Steps p.tables e below (T2.setTop (mkF m 69 #[.val (.int u0), .val (.int (u0 &&& (65535 : Int32))), .val (.int ((u0 &&& (65535 : Int32)).toUInt32.toUInt16.toUInt32.toInt32)), .val (.int (1 : Int32))] [(.int (1 : Int32))])) _
      exact retN X2 hx (t := .boolean) Bd.returns (by simp) (hb hby at_69) hr
    · show Q0 Z u0 h0 n0 _ T2.heap _
      rw [e2]
      exact ⟨rfl, N2⟩
  · by_cases hc17 : (u0 &&& (65535 : Int32)) = (10 : Int32)
    · obtain ⟨_, _, ⟨T3, L3, k3, n3⟩, -, X3, ⟨Lc3, hQ3, l3, y3, z3⟩, st3⟩ := Jvm.LawKit.callS X0 hx (y := (⟨"com/example/rehydra/rehydra/XmlText", "isAllowedAlone", "(C)Z"⟩ : MethodName)) hown (mvT hZ (hw _ (List.mem_of_getElem? (i := 2) rfl))) (mvT hZ (hw _ (List.mem_of_getElem? (i := 3) rfl))) (mvT hZ (hw _ (List.mem_of_getElem? (i := 4) rfl))) (mvT hZ (hw _ (List.mem_of_getElem? (i := 5) rfl))) (by decide) (backOf (W := 0) (rm1 l Z a0 hw [] ((u0 &&& (65535 : Int32)).toUInt32.toUInt16.toUInt32.toInt32) h0 n0 Z0 ) hZ (hw _ (List.mem_of_getElem? (i := 5) rfl)) (hw _ (List.mem_of_getElem? (i := 4) rfl)) (by decide) (by decide)) (g := (mkF m 57 #[.val (.int u0), .val (.int (u0 &&& (65535 : Int32))), .val (.int ((u0 &&& (65535 : Int32)).toUInt32.toUInt16.toUInt32.toInt32)), .val (.int (1 : Int32))] [(.int ((u0 &&& (65535 : Int32)).toUInt32.toUInt16.toUInt32.toInt32))])) rfl (by rw [hml]; rfl) (argsL := [(.int ((u0 &&& (65535 : Int32)).toUInt32.toUInt16.toUInt32.toInt32))]) (rest := []) (lenOf pd_0 rfl) rfl (by show 2 * 0 + _ ≤ _; exact Nat.le_of_eq rfl) (hb hby at_57) (fun _ _ => ⟨rfl, e0, (by decide : 0 + 0 ≤ _), (by decide : 0 + 0 ≤ _)⟩)
      dsimp only [Pt.U, Pt.locs, Pt.cells, Pt.slots] at X3 l3 y3 z3 st3 hQ3
      subst l3 y3 z3
      obtain ⟨rfl, N3q, e3⟩ := hQ3
      have N3 := Fr.app N0 N3q
      have hb61 : (isAl ((u0 &&& (65535 : Int32)).toUInt32.toUInt16.toUInt32.toInt32)) = (1 : Int32) := by
        rw [own_eq (k := 9) (by decide)] at hc11
        rw [own_eq (k := 10) (by decide)] at hc17
        obtain ⟨q0, q1⟩ := own_code u0
        have q2 := own_i2c _ q0 q1
        unfold isAl
        exact if_pos (by rw [q2]; omega)
      obtain ⟨fs, hr, hrun, hended, hW, hsame⟩ := X3.leave (v := some (.int (1 : Int32))) (fun h => by rw [Bd.returns] at h; cases h)
      refine ⟨_, _, pre0 _ ?_, hrun, hended, _, _, rfl, ?_, ⟨_, rfl⟩, hW, hsame.mono (by decide) (by decide)⟩
      · show Steps p.tables e below (s₁.setTop (mkF m 0 #[.val (.int u0), .unset, .unset, .unset] [])) _
        refine XS.iloadN X0.here hx rfl (hb hby at_0) rfl ?_
        show Steps p.tables e below (s₁.setTop (mkF m 1 #[.val (.int u0), .unset, .unset, .unset] [(.int u0)])) _
        refine st1 _ ?_
        show Steps p.tables e below (s₁.setTop (mkF m 3 #[.val (.int u0), .unset, .unset, .unset] [(.int (65535 : Int32)), (.int u0)])) _
        refine XS.iand X0.here hx rfl (hb hby at_3) rfl ?_
        show Steps p.tables e below (s₁.setTop (mkF m 4 #[.val (.int u0), .unset, .unset, .unset] [(.int (u0 &&& (65535 : Int32)))])) _
        refine XS.istoreN X0.here hx rfl (hb hby at_4) rfl (l' := #[.val (.int u0), .val (.int (u0 &&& (65535 : Int32))), .unset, .unset]) rfl ?_
        show Steps p.tables e below (s₁.setTop (mkF m 5 #[.val (.int u0), .val (.int (u0 &&& (65535 : Int32))), .unset, .unset] [])) _
        refine XS.iloadN X0.here hx rfl (hb hby at_5) rfl ?_
        show Steps p.tables e below (s₁.setTop (mkF m 6 #[.val (.int u0), .val (.int (u0 &&& (65535 : Int32))), .unset, .unset] [(.int (u0 &&& (65535 : Int32)))])) _
        refine XS.i2c X0.here hx rfl (hb hby at_6) rfl ?_
        show Steps p.tables e below (s₁.setTop (mkF m 7 #[.val (.int u0), .val (.int (u0 &&& (65535 : Int32))), .unset, .unset] [(.int ((u0 &&& (65535 : Int32)).toUInt32.toUInt16.toUInt32.toInt32))])) _
        refine XS.istoreN X0.here hx rfl (hb hby at_7) rfl (l' := #[.val (.int u0), .val (.int (u0 &&& (65535 : Int32))), .val (.int ((u0 &&& (65535 : Int32)).toUInt32.toUInt16.toUInt32.toInt32)), .unset]) rfl ?_
        show Steps p.tables e below (s₁.setTop (mkF m 8 #[.val (.int u0), .val (.int (u0 &&& (65535 : Int32))), .val (.int ((u0 &&& (65535 : Int32)).toUInt32.toUInt16.toUInt32.toInt32)), .unset] [])) _
        refine XS.iloadN X0.here hx rfl (hb hby at_8) rfl ?_
        show Steps p.tables e below (s₁.setTop (mkF m 9 #[.val (.int u0), .val (.int (u0 &&& (65535 : Int32))), .val (.int ((u0 &&& (65535 : Int32)).toUInt32.toUInt16.toUInt32.toInt32)), .unset] [(.int (u0 &&& (65535 : Int32)))])) _
        refine XS.bipush X0.here hx rfl (hb hby at_9) ?_
        show Steps p.tables e below (s₁.setTop (mkF m 11 #[.val (.int u0), .val (.int (u0 &&& (65535 : Int32))), .val (.int ((u0 &&& (65535 : Int32)).toUInt32.toUInt16.toUInt32.toInt32)), .unset] [(.int (9 : Int32)), (.int (u0 &&& (65535 : Int32)))])) _
        refine XS.icmpNo X0.here hx rfl (hb hby at_11) rfl (feq hc11).1 ?_
        show Steps p.tables e below (s₁.setTop (mkF m 14 #[.val (.int u0), .val (.int (u0 &&& (65535 : Int32))), .val (.int ((u0 &&& (65535 : Int32)).toUInt32.toUInt16.toUInt32.toInt32)), .unset] [])) _
        refine XS.iloadN X0.here hx rfl (hb hby at_14) rfl ?_
        show Steps p.tables e below (s₁.setTop (mkF m 15 #[.val (.int u0), .val (.int (u0 &&& (65535 : Int32))), .val (.int ((u0 &&& (65535 : Int32)).toUInt32.toUInt16.toUInt32.toInt32)), .unset] [(.int (u0 &&& (65535 : Int32)))])) _
        refine XS.bipush X0.here hx rfl (hb hby at_15) ?_
        show Steps p.tables e below (s₁.setTop (mkF m 17 #[.val (.int u0), .val (.int (u0 &&& (65535 : Int32))), .val (.int ((u0 &&& (65535 : Int32)).toUInt32.toUInt16.toUInt32.toInt32)), .unset] [(.int (10 : Int32)), (.int (u0 &&& (65535 : Int32)))])) _
        refine XS.icmpYes X0.here hx rfl (pc0 := 17) (pc' := 50) rfl (hb hby at_17) rfl (teq hc17).1 (by decide) (by decide) ?_
        show Steps p.tables e below (s₁.setTop (mkF m 50 #[.val (.int u0), .val (.int (u0 &&& (65535 : Int32))), .val (.int ((u0 &&& (65535 : Int32)).toUInt32.toUInt16.toUInt32.toInt32)), .unset] [])) _
        refine XS.iconst X0.here hx rfl (hb hby at_50) ?_
        show Steps p.tables e below (s₁.setTop (mkF m 51 #[.val (.int u0), .val (.int (u0 &&& (65535 : Int32))), .val (.int ((u0 &&& (65535 : Int32)).toUInt32.toUInt16.toUInt32.toInt32)), .unset] [(.int (1 : Int32))])) _
        refine XS.goto X0.here hx rfl (pc0 := 51) (pc' := 55) rfl (hb hby at_51) (by decide) (by decide) ?_
        show Steps p.tables e below (s₁.setTop (mkF m 55 #[.val (.int u0), .val (.int (u0 &&& (65535 : Int32))), .val (.int ((u0 &&& (65535 : Int32)).toUInt32.toUInt16.toUInt32.toInt32)), .unset] [(.int (1 : Int32))])) _
        refine XS.istoreN X0.here hx rfl (hb hby at_55) rfl (l' := #[.val (.int u0), .val (.int (u0 &&& (65535 : Int32))), .val (.int ((u0 &&& (65535 : Int32)).toUInt32.toUInt16.toUInt32.toInt32)), .val (.int (1 : Int32))]) rfl ?_
        show Steps p.tables e below (s₁.setTop (mkF m 56 #[.val (.int u0), .val (.int (u0 &&& (65535 : Int32))), .val (.int ((u0 &&& (65535 : Int32)).toUInt32.toUInt16.toUInt32.toInt32)), .val (.int (1 : Int32))] [])) _
        refine XS.iloadN X0.here hx rfl (hb hby at_56) rfl ?_
        show Steps p.tables e below (s₁.setTop (mkF m 57 #[.val (.int u0), .val (.int (u0 &&& (65535 : Int32))), .val (.int ((u0 &&& (65535 : Int32)).toUInt32.toUInt16.toUInt32.toInt32)), .val (.int (1 : Int32))] [(.int ((u0 &&& (65535 : Int32)).toUInt32.toUInt16.toUInt32.toInt32))])) _
        refine st3 _ ?_
        show Steps p.tables e below (T3.setTop (mkF m 60 #[.val (.int u0), .val (.int (u0 &&& (65535 : Int32))), .val (.int ((u0 &&& (65535 : Int32)).toUInt32.toUInt16.toUInt32.toInt32)), .val (.int (1 : Int32))] [(.int (isAl ((u0 &&& (65535 : Int32)).toUInt32.toUInt16.toUInt32.toInt32)))])) _
        refine XS.iloadN X3.here hx rfl (hb hby at_60) rfl ?_
        show Steps p.tables e below (T3.setTop (mkF m 61 #[.val (.int u0), .val (.int (u0 &&& (65535 : Int32))), .val (.int ((u0 &&& (65535 : Int32)).toUInt32.toUInt16.toUInt32.toInt32)), .val (.int (1 : Int32))] [(.int (1 : Int32)), (.int (isAl ((u0 &&& (65535 : Int32)).toUInt32.toUInt16.toUInt32.toInt32)))])) _
        refine XS.icmpNo X3.here hx rfl (hb hby at_61) rfl (teq hb61).2 ?_
        show Steps p.tables e below (T3.setTop (mkF m 64 #[.val (.int u0), .val (.int (u0 &&& (65535 : Int32))), .val (.int ((u0 &&& (65535 : Int32)).toUInt32.toUInt16.toUInt32.toInt32)), .val (.int (1 : Int32))] [])) _
        refine XS.iconst X3.here hx rfl (hb hby at_64) ?_
        show Steps p.tables e below (T3.setTop (mkF m 65 #[.val (.int u0), .val (.int (u0 &&& (65535 : Int32))), .val (.int ((u0 &&& (65535 : Int32)).toUInt32.toUInt16.toUInt32.toInt32)), .val (.int (1 : Int32))] [(.int (1 : Int32))])) _
        refine XS.goto X3.here hx rfl (pc0 := 65) (pc' := 69) rfl (hb hby at_65) (by decide) (by decide) ?_
        show Steps p.tables e below (T3.setTop (mkF m 69 #[.val (.int u0), .val (.int (u0 &&& (65535 : Int32))), .val (.int ((u0 &&& (65535 : Int32)).toUInt32.toUInt16.toUInt32.toInt32)), .val (.int (1 : Int32))] [(.int (1 : Int32))])) _
        exact retN X3 hx (t := .boolean) Bd.returns (by simp) (hb hby at_69) hr
      · show Q0 Z u0 h0 n0 _ T3.heap _
        rw [e3]
        exact ⟨rfl, N3⟩
    · by_cases hc23 : (u0 &&& (65535 : Int32)) = (13 : Int32)
      · obtain ⟨_, _, ⟨T4, L4, k4, n4⟩, -, X4, ⟨Lc4, hQ4, l4, y4, z4⟩, st4⟩ := Jvm.LawKit.callS X0 hx (y := (⟨"com/example/rehydra/rehydra/XmlText", "isAllowedAlone", "(C)Z"⟩ : MethodName)) hown (mvT hZ (hw _ (List.mem_of_getElem? (i := 2) rfl))) (mvT hZ (hw _ (List.mem_of_getElem? (i := 3) rfl))) (mvT hZ (hw _ (List.mem_of_getElem? (i := 4) rfl))) (mvT hZ (hw _ (List.mem_of_getElem? (i := 5) rfl))) (by decide) (backOf (W := 0) (rm1 l Z a0 hw [] ((u0 &&& (65535 : Int32)).toUInt32.toUInt16.toUInt32.toInt32) h0 n0 Z0 ) hZ (hw _ (List.mem_of_getElem? (i := 5) rfl)) (hw _ (List.mem_of_getElem? (i := 4) rfl)) (by decide) (by decide)) (g := (mkF m 57 #[.val (.int u0), .val (.int (u0 &&& (65535 : Int32))), .val (.int ((u0 &&& (65535 : Int32)).toUInt32.toUInt16.toUInt32.toInt32)), .val (.int (1 : Int32))] [(.int ((u0 &&& (65535 : Int32)).toUInt32.toUInt16.toUInt32.toInt32))])) rfl (by rw [hml]; rfl) (argsL := [(.int ((u0 &&& (65535 : Int32)).toUInt32.toUInt16.toUInt32.toInt32))]) (rest := []) (lenOf pd_0 rfl) rfl (by show 2 * 0 + _ ≤ _; exact Nat.le_of_eq rfl) (hb hby at_57) (fun _ _ => ⟨rfl, e0, (by decide : 0 + 0 ≤ _), (by decide : 0 + 0 ≤ _)⟩)
        dsimp only [Pt.U, Pt.locs, Pt.cells, Pt.slots] at X4 l4 y4 z4 st4 hQ4
        subst l4 y4 z4
        obtain ⟨rfl, N4q, e4⟩ := hQ4
        have N4 := Fr.app N0 N4q
        have hb61 : (isAl ((u0 &&& (65535 : Int32)).toUInt32.toUInt16.toUInt32.toInt32)) = (1 : Int32) := by
          rw [own_eq (k := 9) (by decide)] at hc11
          rw [own_eq (k := 10) (by decide)] at hc17
          rw [own_eq (k := 13) (by decide)] at hc23
          obtain ⟨q0, q1⟩ := own_code u0
          have q2 := own_i2c _ q0 q1
          unfold isAl
          exact if_pos (by rw [q2]; omega)
        obtain ⟨fs, hr, hrun, hended, hW, hsame⟩ := X4.leave (v := some (.int (1 : Int32))) (fun h => by rw [Bd.returns] at h; cases h)
        refine ⟨_, _, pre0 _ ?_, hrun, hended, _, _, rfl, ?_, ⟨_, rfl⟩, hW, hsame.mono (by decide) (by decide)⟩
        · show Steps p.tables e below (s₁.setTop (mkF m 0 #[.val (.int u0), .unset, .unset, .unset] [])) _
          refine XS.iloadN X0.here hx rfl (hb hby at_0) rfl ?_
          show Steps p.tables e below (s₁.setTop (mkF m 1 #[.val (.int u0), .unset, .unset, .unset] [(.int u0)])) _
          refine st1 _ ?_
          show Steps p.tables e below (s₁.setTop (mkF m 3 #[.val (.int u0), .unset, .unset, .unset] [(.int (65535 : Int32)), (.int u0)])) _
          refine XS.iand X0.here hx rfl (hb hby at_3) rfl ?_
          show Steps p.tables e below (s₁.setTop (mkF m 4 #[.val (.int u0), .unset, .unset, .unset] [(.int (u0 &&& (65535 : Int32)))])) _
          refine XS.istoreN X0.here hx rfl (hb hby at_4) rfl (l' := #[.val (.int u0), .val (.int (u0 &&& (65535 : Int32))), .unset, .unset]) rfl ?_
          show Steps p.tables e below (s₁.setTop (mkF m 5 #[.val (.int u0), .val (.int (u0 &&& (65535 : Int32))), .unset, .unset] [])) _
          refine XS.iloadN X0.here hx rfl (hb hby at_5) rfl ?_
          show Steps p.tables e below (s₁.setTop (mkF m 6 #[.val (.int u0), .val (.int (u0 &&& (65535 : Int32))), .unset, .unset] [(.int (u0 &&& (65535 : Int32)))])) _
          refine XS.i2c X0.here hx rfl (hb hby at_6) rfl ?_
          show Steps p.tables e below (s₁.setTop (mkF m 7 #[.val (.int u0), .val (.int (u0 &&& (65535 : Int32))), .unset, .unset] [(.int ((u0 &&& (65535 : Int32)).toUInt32.toUInt16.toUInt32.toInt32))])) _
          refine XS.istoreN X0.here hx rfl (hb hby at_7) rfl (l' := #[.val (.int u0), .val (.int (u0 &&& (65535 : Int32))), .val (.int ((u0 &&& (65535 : Int32)).toUInt32.toUInt16.toUInt32.toInt32)), .unset]) rfl ?_
          show Steps p.tables e below (s₁.setTop (mkF m 8 #[.val (.int u0), .val (.int (u0 &&& (65535 : Int32))), .val (.int ((u0 &&& (65535 : Int32)).toUInt32.toUInt16.toUInt32.toInt32)), .unset] [])) _
          refine XS.iloadN X0.here hx rfl (hb hby at_8) rfl ?_
          show Steps p.tables e below (s₁.setTop (mkF m 9 #[.val (.int u0), .val (.int (u0 &&& (65535 : Int32))), .val (.int ((u0 &&& (65535 : Int32)).toUInt32.toUInt16.toUInt32.toInt32)), .unset] [(.int (u0 &&& (65535 : Int32)))])) _
          refine XS.bipush X0.here hx rfl (hb hby at_9) ?_
          show Steps p.tables e below (s₁.setTop (mkF m 11 #[.val (.int u0), .val (.int (u0 &&& (65535 : Int32))), .val (.int ((u0 &&& (65535 : Int32)).toUInt32.toUInt16.toUInt32.toInt32)), .unset] [(.int (9 : Int32)), (.int (u0 &&& (65535 : Int32)))])) _
          refine XS.icmpNo X0.here hx rfl (hb hby at_11) rfl (feq hc11).1 ?_
          show Steps p.tables e below (s₁.setTop (mkF m 14 #[.val (.int u0), .val (.int (u0 &&& (65535 : Int32))), .val (.int ((u0 &&& (65535 : Int32)).toUInt32.toUInt16.toUInt32.toInt32)), .unset] [])) _
          refine XS.iloadN X0.here hx rfl (hb hby at_14) rfl ?_
          show Steps p.tables e below (s₁.setTop (mkF m 15 #[.val (.int u0), .val (.int (u0 &&& (65535 : Int32))), .val (.int ((u0 &&& (65535 : Int32)).toUInt32.toUInt16.toUInt32.toInt32)), .unset] [(.int (u0 &&& (65535 : Int32)))])) _
          refine XS.bipush X0.here hx rfl (hb hby at_15) ?_
          show Steps p.tables e below (s₁.setTop (mkF m 17 #[.val (.int u0), .val (.int (u0 &&& (65535 : Int32))), .val (.int ((u0 &&& (65535 : Int32)).toUInt32.toUInt16.toUInt32.toInt32)), .unset] [(.int (10 : Int32)), (.int (u0 &&& (65535 : Int32)))])) _
          refine XS.icmpNo X0.here hx rfl (hb hby at_17) rfl (feq hc17).1 ?_
          show Steps p.tables e below (s₁.setTop (mkF m 20 #[.val (.int u0), .val (.int (u0 &&& (65535 : Int32))), .val (.int ((u0 &&& (65535 : Int32)).toUInt32.toUInt16.toUInt32.toInt32)), .unset] [])) _
          refine XS.iloadN X0.here hx rfl (hb hby at_20) rfl ?_
          show Steps p.tables e below (s₁.setTop (mkF m 21 #[.val (.int u0), .val (.int (u0 &&& (65535 : Int32))), .val (.int ((u0 &&& (65535 : Int32)).toUInt32.toUInt16.toUInt32.toInt32)), .unset] [(.int (u0 &&& (65535 : Int32)))])) _
          refine XS.bipush X0.here hx rfl (hb hby at_21) ?_
          show Steps p.tables e below (s₁.setTop (mkF m 23 #[.val (.int u0), .val (.int (u0 &&& (65535 : Int32))), .val (.int ((u0 &&& (65535 : Int32)).toUInt32.toUInt16.toUInt32.toInt32)), .unset] [(.int (13 : Int32)), (.int (u0 &&& (65535 : Int32)))])) _
          refine XS.icmpYes X0.here hx rfl (pc0 := 23) (pc' := 50) rfl (hb hby at_23) rfl (teq hc23).1 (by decide) (by decide) ?_
          show Steps p.tables e below (s₁.setTop (mkF m 50 #[.val (.int u0), .val (.int (u0 &&& (65535 : Int32))), .val (.int ((u0 &&& (65535 : Int32)).toUInt32.toUInt16.toUInt32.toInt32)), .unset] [])) _
          refine XS.iconst X0.here hx rfl (hb hby at_50) ?_
          show Steps p.tables e below (s₁.setTop (mkF m 51 #[.val (.int u0), .val (.int (u0 &&& (65535 : Int32))), .val (.int ((u0 &&& (65535 : Int32)).toUInt32.toUInt16.toUInt32.toInt32)), .unset] [(.int (1 : Int32))])) _
          refine XS.goto X0.here hx rfl (pc0 := 51) (pc' := 55) rfl (hb hby at_51) (by decide) (by decide) ?_
          show Steps p.tables e below (s₁.setTop (mkF m 55 #[.val (.int u0), .val (.int (u0 &&& (65535 : Int32))), .val (.int ((u0 &&& (65535 : Int32)).toUInt32.toUInt16.toUInt32.toInt32)), .unset] [(.int (1 : Int32))])) _
          refine XS.istoreN X0.here hx rfl (hb hby at_55) rfl (l' := #[.val (.int u0), .val (.int (u0 &&& (65535 : Int32))), .val (.int ((u0 &&& (65535 : Int32)).toUInt32.toUInt16.toUInt32.toInt32)), .val (.int (1 : Int32))]) rfl ?_
          show Steps p.tables e below (s₁.setTop (mkF m 56 #[.val (.int u0), .val (.int (u0 &&& (65535 : Int32))), .val (.int ((u0 &&& (65535 : Int32)).toUInt32.toUInt16.toUInt32.toInt32)), .val (.int (1 : Int32))] [])) _
          refine XS.iloadN X0.here hx rfl (hb hby at_56) rfl ?_
          show Steps p.tables e below (s₁.setTop (mkF m 57 #[.val (.int u0), .val (.int (u0 &&& (65535 : Int32))), .val (.int ((u0 &&& (65535 : Int32)).toUInt32.toUInt16.toUInt32.toInt32)), .val (.int (1 : Int32))] [(.int ((u0 &&& (65535 : Int32)).toUInt32.toUInt16.toUInt32.toInt32))])) _
          refine st4 _ ?_
          show Steps p.tables e below (T4.setTop (mkF m 60 #[.val (.int u0), .val (.int (u0 &&& (65535 : Int32))), .val (.int ((u0 &&& (65535 : Int32)).toUInt32.toUInt16.toUInt32.toInt32)), .val (.int (1 : Int32))] [(.int (isAl ((u0 &&& (65535 : Int32)).toUInt32.toUInt16.toUInt32.toInt32)))])) _
          refine XS.iloadN X4.here hx rfl (hb hby at_60) rfl ?_
          show Steps p.tables e below (T4.setTop (mkF m 61 #[.val (.int u0), .val (.int (u0 &&& (65535 : Int32))), .val (.int ((u0 &&& (65535 : Int32)).toUInt32.toUInt16.toUInt32.toInt32)), .val (.int (1 : Int32))] [(.int (1 : Int32)), (.int (isAl ((u0 &&& (65535 : Int32)).toUInt32.toUInt16.toUInt32.toInt32)))])) _
          refine XS.icmpNo X4.here hx rfl (hb hby at_61) rfl (teq hb61).2 ?_
          show Steps p.tables e below (T4.setTop (mkF m 64 #[.val (.int u0), .val (.int (u0 &&& (65535 : Int32))), .val (.int ((u0 &&& (65535 : Int32)).toUInt32.toUInt16.toUInt32.toInt32)), .val (.int (1 : Int32))] [])) _
          refine XS.iconst X4.here hx rfl (hb hby at_64) ?_
          show Steps p.tables e below (T4.setTop (mkF m 65 #[.val (.int u0), .val (.int (u0 &&& (65535 : Int32))), .val (.int ((u0 &&& (65535 : Int32)).toUInt32.toUInt16.toUInt32.toInt32)), .val (.int (1 : Int32))] [(.int (1 : Int32))])) _
          refine XS.goto X4.here hx rfl (pc0 := 65) (pc' := 69) rfl (hb hby at_65) (by decide) (by decide) ?_
          show Steps p.tables e below (T4.setTop (mkF m 69 #[.val (.int u0), .val (.int (u0 &&& (65535 : Int32))), .val (.int ((u0 &&& (65535 : Int32)).toUInt32.toUInt16.toUInt32.toInt32)), .val (.int (1 : Int32))] [(.int (1 : Int32))])) _
          exact retN X4 hx (t := .boolean) Bd.returns (by simp) (hb hby at_69) hr
        · show Q0 Z u0 h0 n0 _ T4.heap _
          rw [e4]
          exact ⟨rfl, N4⟩
      · by_cases hc29 : (u0 &&& (65535 : Int32)) < (32 : Int32)
        · have st5 := X0.ldcInt hx hown (mvT hZ (hw _ (List.mem_of_getElem? (i := 1) rfl))) (g := (mkF m 39 #[.val (.int u0), .val (.int (u0 &&& (65535 : Int32))), .val (.int ((u0 &&& (65535 : Int32)).toUInt32.toUInt16.toUInt32.toInt32)), .unset] [(.int (u0 &&& (65535 : Int32)))])) rfl (hb hby at_39)
          by_cases hc41 : (u0 &&& (65535 : Int32)) < (57344 : Int32)
          · obtain ⟨_, _, ⟨T6, L6, k6, n6⟩, -, X6, ⟨Lc6, hQ6, l6, y6, z6⟩, st6⟩ := Jvm.LawKit.callS X0 hx (y := (⟨"com/example/rehydra/rehydra/XmlText", "isAllowedAlone", "(C)Z"⟩ : MethodName)) hown (mvT hZ (hw _ (List.mem_of_getElem? (i := 2) rfl))) (mvT hZ (hw _ (List.mem_of_getElem? (i := 3) rfl))) (mvT hZ (hw _ (List.mem_of_getElem? (i := 4) rfl))) (mvT hZ (hw _ (List.mem_of_getElem? (i := 5) rfl))) (by decide) (backOf (W := 0) (rm1 l Z a0 hw [] ((u0 &&& (65535 : Int32)).toUInt32.toUInt16.toUInt32.toInt32) h0 n0 Z0 ) hZ (hw _ (List.mem_of_getElem? (i := 5) rfl)) (hw _ (List.mem_of_getElem? (i := 4) rfl)) (by decide) (by decide)) (g := (mkF m 57 #[.val (.int u0), .val (.int (u0 &&& (65535 : Int32))), .val (.int ((u0 &&& (65535 : Int32)).toUInt32.toUInt16.toUInt32.toInt32)), .val (.int (0 : Int32))] [(.int ((u0 &&& (65535 : Int32)).toUInt32.toUInt16.toUInt32.toInt32))])) rfl (by rw [hml]; rfl) (argsL := [(.int ((u0 &&& (65535 : Int32)).toUInt32.toUInt16.toUInt32.toInt32))]) (rest := []) (lenOf pd_0 rfl) rfl (by show 2 * 0 + _ ≤ _; exact Nat.le_of_eq rfl) (hb hby at_57) (fun _ _ => ⟨rfl, e0, (by decide : 0 + 0 ≤ _), (by decide : 0 + 0 ≤ _)⟩)
            dsimp only [Pt.U, Pt.locs, Pt.cells, Pt.slots] at X6 l6 y6 z6 st6 hQ6
            subst l6 y6 z6
            obtain ⟨rfl, N6q, e6⟩ := hQ6
            have N6 := Fr.app N0 N6q
            have hb61 : (isAl ((u0 &&& (65535 : Int32)).toUInt32.toUInt16.toUInt32.toInt32)) = (0 : Int32) := by
              rw [own_eq (k := 9) (by decide)] at hc11
              rw [own_eq (k := 10) (by decide)] at hc17
              rw [own_eq (k := 13) (by decide)] at hc23
              rw [own_lt (k := 32) (by decide)] at hc29
              rw [own_lt (k := 57344) (by decide)] at hc41
              obtain ⟨q0, q1⟩ := own_code u0
              have q2 := own_i2c _ q0 q1
              unfold isAl
              exact if_neg (by rw [q2]; omega)
            obtain ⟨fs, hr, hrun, hended, hW, hsame⟩ := X6.leave (v := some (.int (1 : Int32))) (fun h => by rw [Bd.returns] at h; cases h)
            refine ⟨_, _, pre0 _ ?_, hrun, hended, _, _, rfl, ?_, ⟨_, rfl⟩, hW, hsame.mono (by decide) (by decide)⟩
            · show Steps p.tables e below (s₁.setTop (mkF m 0 #[.val (.int u0), .unset, .unset, .unset] [])) _
              refine XS.iloadN X0.here hx rfl (hb hby at_0) rfl ?_
              show Steps p.tables e below (s₁.setTop (mkF m 1 #[.val (.int u0), .unset, .unset, .unset] [(.int u0)])) _
              refine st1 _ ?_
              show Steps p.tables e below (s₁.setTop (mkF m 3 #[.val (.int u0), .unset, .unset, .unset] [(.int (65535 : Int32)), (.int u0)])) _
              refine XS.iand X0.here hx rfl (hb hby at_3) rfl ?_
              show Steps p.tables e below (s₁.setTop (mkF m 4 #[.val (.int u0), .unset, .unset, .unset] [(.int (u0 &&& (65535 : Int32)))])) _
              refine XS.istoreN X0.here hx rfl (hb hby at_4) rfl (l' := #[.val (.int u0), .val (.int (u0 &&& (65535 : Int32))), .unset, .unset]) rfl ?_
              show Steps p.tables e below (s₁.setTop (mkF m 5 #[.val (.int u0), .val (.int (u0 &&& (65535 : Int32))), .unset, .unset] [])) _
              refine XS.iloadN X0.here hx rfl (hb hby at_5) rfl ?_
              show Steps p.tables e below (s₁.setTop (mkF m 6 #[.val (.int u0), .val (.int (u0 &&& (65535 : Int32))), .unset, .unset] [(.int (u0 &&& (65535 : Int32)))])) _
              refine XS.i2c X0.here hx rfl (hb hby at_6) rfl ?_
              show Steps p.tables e below (s₁.setTop (mkF m 7 #[.val (.int u0), .val (.int (u0 &&& (65535 : Int32))), .unset, .unset] [(.int ((u0 &&& (65535 : Int32)).toUInt32.toUInt16.toUInt32.toInt32))])) _
              refine XS.istoreN X0.here hx rfl (hb hby at_7) rfl (l' := #[.val (.int u0), .val (.int (u0 &&& (65535 : Int32))), .val (.int ((u0 &&& (65535 : Int32)).toUInt32.toUInt16.toUInt32.toInt32)), .unset]) rfl ?_
              show Steps p.tables e below (s₁.setTop (mkF m 8 #[.val (.int u0), .val (.int (u0 &&& (65535 : Int32))), .val (.int ((u0 &&& (65535 : Int32)).toUInt32.toUInt16.toUInt32.toInt32)), .unset] [])) _
              refine XS.iloadN X0.here hx rfl (hb hby at_8) rfl ?_
              show Steps p.tables e below (s₁.setTop (mkF m 9 #[.val (.int u0), .val (.int (u0 &&& (65535 : Int32))), .val (.int ((u0 &&& (65535 : Int32)).toUInt32.toUInt16.toUInt32.toInt32)), .unset] [(.int (u0 &&& (65535 : Int32)))])) _
              refine XS.bipush X0.here hx rfl (hb hby at_9) ?_
              show Steps p.tables e below (s₁.setTop (mkF m 11 #[.val (.int u0), .val (.int (u0 &&& (65535 : Int32))), .val (.int ((u0 &&& (65535 : Int32)).toUInt32.toUInt16.toUInt32.toInt32)), .unset] [(.int (9 : Int32)), (.int (u0 &&& (65535 : Int32)))])) _
              refine XS.icmpNo X0.here hx rfl (hb hby at_11) rfl (feq hc11).1 ?_
              show Steps p.tables e below (s₁.setTop (mkF m 14 #[.val (.int u0), .val (.int (u0 &&& (65535 : Int32))), .val (.int ((u0 &&& (65535 : Int32)).toUInt32.toUInt16.toUInt32.toInt32)), .unset] [])) _
              refine XS.iloadN X0.here hx rfl (hb hby at_14) rfl ?_
              show Steps p.tables e below (s₁.setTop (mkF m 15 #[.val (.int u0), .val (.int (u0 &&& (65535 : Int32))), .val (.int ((u0 &&& (65535 : Int32)).toUInt32.toUInt16.toUInt32.toInt32)), .unset] [(.int (u0 &&& (65535 : Int32)))])) _
              refine XS.bipush X0.here hx rfl (hb hby at_15) ?_
              show Steps p.tables e below (s₁.setTop (mkF m 17 #[.val (.int u0), .val (.int (u0 &&& (65535 : Int32))), .val (.int ((u0 &&& (65535 : Int32)).toUInt32.toUInt16.toUInt32.toInt32)), .unset] [(.int (10 : Int32)), (.int (u0 &&& (65535 : Int32)))])) _
              refine XS.icmpNo X0.here hx rfl (hb hby at_17) rfl (feq hc17).1 ?_
              show Steps p.tables e below (s₁.setTop (mkF m 20 #[.val (.int u0), .val (.int (u0 &&& (65535 : Int32))), .val (.int ((u0 &&& (65535 : Int32)).toUInt32.toUInt16.toUInt32.toInt32)), .unset] [])) _
              refine XS.iloadN X0.here hx rfl (hb hby at_20) rfl ?_
              show Steps p.tables e below (s₁.setTop (mkF m 21 #[.val (.int u0), .val (.int (u0 &&& (65535 : Int32))), .val (.int ((u0 &&& (65535 : Int32)).toUInt32.toUInt16.toUInt32.toInt32)), .unset] [(.int (u0 &&& (65535 : Int32)))])) _
              refine XS.bipush X0.here hx rfl (hb hby at_21) ?_
              show Steps p.tables e below (s₁.setTop (mkF m 23 #[.val (.int u0), .val (.int (u0 &&& (65535 : Int32))), .val (.int ((u0 &&& (65535 : Int32)).toUInt32.toUInt16.toUInt32.toInt32)), .unset] [(.int (13 : Int32)), (.int (u0 &&& (65535 : Int32)))])) _
              refine XS.icmpNo X0.here hx rfl (hb hby at_23) rfl (feq hc23).1 ?_
              show Steps p.tables e below (s₁.setTop (mkF m 26 #[.val (.int u0), .val (.int (u0 &&& (65535 : Int32))), .val (.int ((u0 &&& (65535 : Int32)).toUInt32.toUInt16.toUInt32.toInt32)), .unset] [])) _
              refine XS.iloadN X0.here hx rfl (hb hby at_26) rfl ?_
              show Steps p.tables e below (s₁.setTop (mkF m 27 #[.val (.int u0), .val (.int (u0 &&& (65535 : Int32))), .val (.int ((u0 &&& (65535 : Int32)).toUInt32.toUInt16.toUInt32.toInt32)), .unset] [(.int (u0 &&& (65535 : Int32)))])) _
              refine XS.bipush X0.here hx rfl (hb hby at_27) ?_
              show Steps p.tables e below (s₁.setTop (mkF m 29 #[.val (.int u0), .val (.int (u0 &&& (65535 : Int32))), .val (.int ((u0 &&& (65535 : Int32)).toUInt32.toUInt16.toUInt32.toInt32)), .unset] [(.int (32 : Int32)), (.int (u0 &&& (65535 : Int32)))])) _
              refine XS.icmpYes X0.here hx rfl (pc0 := 29) (pc' := 38) rfl (hb hby at_29) rfl (tlt hc29).1 (by decide) (by decide) ?_
              show Steps p.tables e below (s₁.setTop (mkF m 38 #[.val (.int u0), .val (.int (u0 &&& (65535 : Int32))), .val (.int ((u0 &&& (65535 : Int32)).toUInt32.toUInt16.toUInt32.toInt32)), .unset] [])) _
              refine XS.iloadN X0.here hx rfl (hb hby at_38) rfl ?_
              show Steps p.tables e below (s₁.setTop (mkF m 39 #[.val (.int u0), .val (.int (u0 &&& (65535 : Int32))), .val (.int ((u0 &&& (65535 : Int32)).toUInt32.toUInt16.toUInt32.toInt32)), .unset] [(.int (u0 &&& (65535 : Int32)))])) _
              refine st5 _ ?_
              show Steps p.tables e below (s₁.setTop (mkF m 41 #[.val (.int u0), .val (.int (u0 &&& (65535 : Int32))), .val (.int ((u0 &&& (65535 : Int32)).toUInt32.toUInt16.toUInt32.toInt32)), .unset] [(.int (57344 : Int32)), (.int (u0 &&& (65535 : Int32)))])) _
              refine XS.icmpYes X0.here hx rfl (pc0 := 41) (pc' := 54) rfl (hb hby at_41) rfl (tlt hc41).1 (by decide) (by decide) ?_
              show Steps p.tables e below (s₁.setTop (mkF m 54 #[.val (.int u0), .val (.int (u0 &&& (65535 : Int32))), .val (.int ((u0 &&& (65535 : Int32)).toUInt32.toUInt16.toUInt32.toInt32)), .unset] [])) _
              refine XS.iconst X0.here hx rfl (hb hby at_54) ?_
              show Steps p.tables e below (s₁.setTop (mkF m 55 #[.val (.int u0), .val (.int (u0 &&& (65535 : Int32))), .val (.int ((u0 &&& (65535 : Int32)).toUInt32.toUInt16.toUInt32.toInt32)), .unset] [(.int (0 : Int32))])) _
              refine XS.istoreN X0.here hx rfl (hb hby at_55) rfl (l' := #[.val (.int u0), .val (.int (u0 &&& (65535 : Int32))), .val (.int ((u0 &&& (65535 : Int32)).toUInt32.toUInt16.toUInt32.toInt32)), .val (.int (0 : Int32))]) rfl ?_
              show Steps p.tables e below (s₁.setTop (mkF m 56 #[.val (.int u0), .val (.int (u0 &&& (65535 : Int32))), .val (.int ((u0 &&& (65535 : Int32)).toUInt32.toUInt16.toUInt32.toInt32)), .val (.int (0 : Int32))] [])) _
              refine XS.iloadN X0.here hx rfl (hb hby at_56) rfl ?_
              show Steps p.tables e below (s₁.setTop (mkF m 57 #[.val (.int u0), .val (.int (u0 &&& (65535 : Int32))), .val (.int ((u0 &&& (65535 : Int32)).toUInt32.toUInt16.toUInt32.toInt32)), .val (.int (0 : Int32))] [(.int ((u0 &&& (65535 : Int32)).toUInt32.toUInt16.toUInt32.toInt32))])) _
              refine st6 _ ?_
              show Steps p.tables e below (T6.setTop (mkF m 60 #[.val (.int u0), .val (.int (u0 &&& (65535 : Int32))), .val (.int ((u0 &&& (65535 : Int32)).toUInt32.toUInt16.toUInt32.toInt32)), .val (.int (0 : Int32))] [(.int (isAl ((u0 &&& (65535 : Int32)).toUInt32.toUInt16.toUInt32.toInt32)))])) _
              refine XS.iloadN X6.here hx rfl (hb hby at_60) rfl ?_
              show Steps p.tables e below (T6.setTop (mkF m 61 #[.val (.int u0), .val (.int (u0 &&& (65535 : Int32))), .val (.int ((u0 &&& (65535 : Int32)).toUInt32.toUInt16.toUInt32.toInt32)), .val (.int (0 : Int32))] [(.int (0 : Int32)), (.int (isAl ((u0 &&& (65535 : Int32)).toUInt32.toUInt16.toUInt32.toInt32)))])) _
              refine XS.icmpNo X6.here hx rfl (hb hby at_61) rfl (teq hb61).2 ?_
              show Steps p.tables e below (T6.setTop (mkF m 64 #[.val (.int u0), .val (.int (u0 &&& (65535 : Int32))), .val (.int ((u0 &&& (65535 : Int32)).toUInt32.toUInt16.toUInt32.toInt32)), .val (.int (0 : Int32))] [])) _
              refine XS.iconst X6.here hx rfl (hb hby at_64) ?_
              show Steps p.tables e below (T6.setTop (mkF m 65 #[.val (.int u0), .val (.int (u0 &&& (65535 : Int32))), .val (.int ((u0 &&& (65535 : Int32)).toUInt32.toUInt16.toUInt32.toInt32)), .val (.int (0 : Int32))] [(.int (1 : Int32))])) _
              refine XS.goto X6.here hx rfl (pc0 := 65) (pc' := 69) rfl (hb hby at_65) (by decide) (by decide) ?_
              show Steps p.tables e below (T6.setTop (mkF m 69 #[.val (.int u0), .val (.int (u0 &&& (65535 : Int32))), .val (.int ((u0 &&& (65535 : Int32)).toUInt32.toUInt16.toUInt32.toInt32)), .val (.int (0 : Int32))] [(.int (1 : Int32))])) _
              exact retN X6 hx (t := .boolean) Bd.returns (by simp) (hb hby at_69) hr
            · show Q0 Z u0 h0 n0 _ T6.heap _
              rw [e6]
              exact ⟨rfl, N6⟩
          · have st7 := X0.ldcInt hx hown (mvT hZ (hw _ (List.mem_of_getElem? (i := 14) rfl))) (g := (mkF m 45 #[.val (.int u0), .val (.int (u0 &&& (65535 : Int32))), .val (.int ((u0 &&& (65535 : Int32)).toUInt32.toUInt16.toUInt32.toInt32)), .unset] [(.int (u0 &&& (65535 : Int32)))])) rfl (hb hby at_45)
            by_cases hc47 : (65533 : Int32) < (u0 &&& (65535 : Int32))
            · obtain ⟨_, _, ⟨T8, L8, k8, n8⟩, -, X8, ⟨Lc8, hQ8, l8, y8, z8⟩, st8⟩ := Jvm.LawKit.callS X0 hx (y := (⟨"com/example/rehydra/rehydra/XmlText", "isAllowedAlone", "(C)Z"⟩ : MethodName)) hown (mvT hZ (hw _ (List.mem_of_getElem? (i := 2) rfl))) (mvT hZ (hw _ (List.mem_of_getElem? (i := 3) rfl))) (mvT hZ (hw _ (List.mem_of_getElem? (i := 4) rfl))) (mvT hZ (hw _ (List.mem_of_getElem? (i := 5) rfl))) (by decide) (backOf (W := 0) (rm1 l Z a0 hw [] ((u0 &&& (65535 : Int32)).toUInt32.toUInt16.toUInt32.toInt32) h0 n0 Z0 ) hZ (hw _ (List.mem_of_getElem? (i := 5) rfl)) (hw _ (List.mem_of_getElem? (i := 4) rfl)) (by decide) (by decide)) (g := (mkF m 57 #[.val (.int u0), .val (.int (u0 &&& (65535 : Int32))), .val (.int ((u0 &&& (65535 : Int32)).toUInt32.toUInt16.toUInt32.toInt32)), .val (.int (0 : Int32))] [(.int ((u0 &&& (65535 : Int32)).toUInt32.toUInt16.toUInt32.toInt32))])) rfl (by rw [hml]; rfl) (argsL := [(.int ((u0 &&& (65535 : Int32)).toUInt32.toUInt16.toUInt32.toInt32))]) (rest := []) (lenOf pd_0 rfl) rfl (by show 2 * 0 + _ ≤ _; exact Nat.le_of_eq rfl) (hb hby at_57) (fun _ _ => ⟨rfl, e0, (by decide : 0 + 0 ≤ _), (by decide : 0 + 0 ≤ _)⟩)
              dsimp only [Pt.U, Pt.locs, Pt.cells, Pt.slots] at X8 l8 y8 z8 st8 hQ8
              subst l8 y8 z8
              obtain ⟨rfl, N8q, e8⟩ := hQ8
              have N8 := Fr.app N0 N8q
              have hb61 : (isAl ((u0 &&& (65535 : Int32)).toUInt32.toUInt16.toUInt32.toInt32)) = (0 : Int32) := by
                rw [own_eq (k := 9) (by decide)] at hc11
                rw [own_eq (k := 10) (by decide)] at hc17
                rw [own_eq (k := 13) (by decide)] at hc23
                rw [own_lt (k := 32) (by decide)] at hc29
                rw [own_lt (k := 57344) (by decide)] at hc41
                rw [own_gt (k := 65533) (by decide)] at hc47
                obtain ⟨q0, q1⟩ := own_code u0
                have q2 := own_i2c _ q0 q1
                unfold isAl
                exact if_neg (by rw [q2]; omega)
              obtain ⟨fs, hr, hrun, hended, hW, hsame⟩ := X8.leave (v := some (.int (1 : Int32))) (fun h => by rw [Bd.returns] at h; cases h)
              refine ⟨_, _, pre0 _ ?_, hrun, hended, _, _, rfl, ?_, ⟨_, rfl⟩, hW, hsame.mono (by decide) (by decide)⟩
              · show Steps p.tables e below (s₁.setTop (mkF m 0 #[.val (.int u0), .unset, .unset, .unset] [])) _
                refine XS.iloadN X0.here hx rfl (hb hby at_0) rfl ?_
                show Steps p.tables e below (s₁.setTop (mkF m 1 #[.val (.int u0), .unset, .unset, .unset] [(.int u0)])) _
                refine st1 _ ?_
                show Steps p.tables e below (s₁.setTop (mkF m 3 #[.val (.int u0), .unset, .unset, .unset] [(.int (65535 : Int32)), (.int u0)])) _
                refine XS.iand X0.here hx rfl (hb hby at_3) rfl ?_
                show Steps p.tables e below (s₁.setTop (mkF m 4 #[.val (.int u0), .unset, .unset, .unset] [(.int (u0 &&& (65535 : Int32)))])) _
                refine XS.istoreN X0.here hx rfl (hb hby at_4) rfl (l' := #[.val (.int u0), .val (.int (u0 &&& (65535 : Int32))), .unset, .unset]) rfl ?_
                show Steps p.tables e below (s₁.setTop (mkF m 5 #[.val (.int u0), .val (.int (u0 &&& (65535 : Int32))), .unset, .unset] [])) _
                refine XS.iloadN X0.here hx rfl (hb hby at_5) rfl ?_
                show Steps p.tables e below (s₁.setTop (mkF m 6 #[.val (.int u0), .val (.int (u0 &&& (65535 : Int32))), .unset, .unset] [(.int (u0 &&& (65535 : Int32)))])) _
                refine XS.i2c X0.here hx rfl (hb hby at_6) rfl ?_
                show Steps p.tables e below (s₁.setTop (mkF m 7 #[.val (.int u0), .val (.int (u0 &&& (65535 : Int32))), .unset, .unset] [(.int ((u0 &&& (65535 : Int32)).toUInt32.toUInt16.toUInt32.toInt32))])) _
                refine XS.istoreN X0.here hx rfl (hb hby at_7) rfl (l' := #[.val (.int u0), .val (.int (u0 &&& (65535 : Int32))), .val (.int ((u0 &&& (65535 : Int32)).toUInt32.toUInt16.toUInt32.toInt32)), .unset]) rfl ?_
                show Steps p.tables e below (s₁.setTop (mkF m 8 #[.val (.int u0), .val (.int (u0 &&& (65535 : Int32))), .val (.int ((u0 &&& (65535 : Int32)).toUInt32.toUInt16.toUInt32.toInt32)), .unset] [])) _
                refine XS.iloadN X0.here hx rfl (hb hby at_8) rfl ?_
                show Steps p.tables e below (s₁.setTop (mkF m 9 #[.val (.int u0), .val (.int (u0 &&& (65535 : Int32))), .val (.int ((u0 &&& (65535 : Int32)).toUInt32.toUInt16.toUInt32.toInt32)), .unset] [(.int (u0 &&& (65535 : Int32)))])) _
                refine XS.bipush X0.here hx rfl (hb hby at_9) ?_
                show Steps p.tables e below (s₁.setTop (mkF m 11 #[.val (.int u0), .val (.int (u0 &&& (65535 : Int32))), .val (.int ((u0 &&& (65535 : Int32)).toUInt32.toUInt16.toUInt32.toInt32)), .unset] [(.int (9 : Int32)), (.int (u0 &&& (65535 : Int32)))])) _
                refine XS.icmpNo X0.here hx rfl (hb hby at_11) rfl (feq hc11).1 ?_
                show Steps p.tables e below (s₁.setTop (mkF m 14 #[.val (.int u0), .val (.int (u0 &&& (65535 : Int32))), .val (.int ((u0 &&& (65535 : Int32)).toUInt32.toUInt16.toUInt32.toInt32)), .unset] [])) _
                refine XS.iloadN X0.here hx rfl (hb hby at_14) rfl ?_
                show Steps p.tables e below (s₁.setTop (mkF m 15 #[.val (.int u0), .val (.int (u0 &&& (65535 : Int32))), .val (.int ((u0 &&& (65535 : Int32)).toUInt32.toUInt16.toUInt32.toInt32)), .unset] [(.int (u0 &&& (65535 : Int32)))])) _
                refine XS.bipush X0.here hx rfl (hb hby at_15) ?_
                show Steps p.tables e below (s₁.setTop (mkF m 17 #[.val (.int u0), .val (.int (u0 &&& (65535 : Int32))), .val (.int ((u0 &&& (65535 : Int32)).toUInt32.toUInt16.toUInt32.toInt32)), .unset] [(.int (10 : Int32)), (.int (u0 &&& (65535 : Int32)))])) _
                refine XS.icmpNo X0.here hx rfl (hb hby at_17) rfl (feq hc17).1 ?_
                show Steps p.tables e below (s₁.setTop (mkF m 20 #[.val (.int u0), .val (.int (u0 &&& (65535 : Int32))), .val (.int ((u0 &&& (65535 : Int32)).toUInt32.toUInt16.toUInt32.toInt32)), .unset] [])) _
                refine XS.iloadN X0.here hx rfl (hb hby at_20) rfl ?_
                show Steps p.tables e below (s₁.setTop (mkF m 21 #[.val (.int u0), .val (.int (u0 &&& (65535 : Int32))), .val (.int ((u0 &&& (65535 : Int32)).toUInt32.toUInt16.toUInt32.toInt32)), .unset] [(.int (u0 &&& (65535 : Int32)))])) _
                refine XS.bipush X0.here hx rfl (hb hby at_21) ?_
                show Steps p.tables e below (s₁.setTop (mkF m 23 #[.val (.int u0), .val (.int (u0 &&& (65535 : Int32))), .val (.int ((u0 &&& (65535 : Int32)).toUInt32.toUInt16.toUInt32.toInt32)), .unset] [(.int (13 : Int32)), (.int (u0 &&& (65535 : Int32)))])) _
                refine XS.icmpNo X0.here hx rfl (hb hby at_23) rfl (feq hc23).1 ?_
                show Steps p.tables e below (s₁.setTop (mkF m 26 #[.val (.int u0), .val (.int (u0 &&& (65535 : Int32))), .val (.int ((u0 &&& (65535 : Int32)).toUInt32.toUInt16.toUInt32.toInt32)), .unset] [])) _
                refine XS.iloadN X0.here hx rfl (hb hby at_26) rfl ?_
                show Steps p.tables e below (s₁.setTop (mkF m 27 #[.val (.int u0), .val (.int (u0 &&& (65535 : Int32))), .val (.int ((u0 &&& (65535 : Int32)).toUInt32.toUInt16.toUInt32.toInt32)), .unset] [(.int (u0 &&& (65535 : Int32)))])) _
                refine XS.bipush X0.here hx rfl (hb hby at_27) ?_
                show Steps p.tables e below (s₁.setTop (mkF m 29 #[.val (.int u0), .val (.int (u0 &&& (65535 : Int32))), .val (.int ((u0 &&& (65535 : Int32)).toUInt32.toUInt16.toUInt32.toInt32)), .unset] [(.int (32 : Int32)), (.int (u0 &&& (65535 : Int32)))])) _
                refine XS.icmpYes X0.here hx rfl (pc0 := 29) (pc' := 38) rfl (hb hby at_29) rfl (tlt hc29).1 (by decide) (by decide) ?_
                show Steps p.tables e below (s₁.setTop (mkF m 38 #[.val (.int u0), .val (.int (u0 &&& (65535 : Int32))), .val (.int ((u0 &&& (65535 : Int32)).toUInt32.toUInt16.toUInt32.toInt32)), .unset] [])) _
                refine XS.iloadN X0.here hx rfl (hb hby at_38) rfl ?_
                show Steps p.tables e below (s₁.setTop (mkF m 39 #[.val (.int u0), .val (.int (u0 &&& (65535 : Int32))), .val (.int ((u0 &&& (65535 : Int32)).toUInt32.toUInt16.toUInt32.toInt32)), .unset] [(.int (u0 &&& (65535 : Int32)))])) _
                refine st5 _ ?_
                show Steps p.tables e below (s₁.setTop (mkF m 41 #[.val (.int u0), .val (.int (u0 &&& (65535 : Int32))), .val (.int ((u0 &&& (65535 : Int32)).toUInt32.toUInt16.toUInt32.toInt32)), .unset] [(.int (57344 : Int32)), (.int (u0 &&& (65535 : Int32)))])) _
                refine XS.icmpNo X0.here hx rfl (hb hby at_41) rfl (flt hc41).1 ?_
                show Steps p.tables e below (s₁.setTop (mkF m 44 #[.val (.int u0), .val (.int (u0 &&& (65535 : Int32))), .val (.int ((u0 &&& (65535 : Int32)).toUInt32.toUInt16.toUInt32.toInt32)), .unset] [])) _
                refine XS.iloadN X0.here hx rfl (hb hby at_44) rfl ?_
                show Steps p.tables e below (s₁.setTop (mkF m 45 #[.val (.int u0), .val (.int (u0 &&& (65535 : Int32))), .val (.int ((u0 &&& (65535 : Int32)).toUInt32.toUInt16.toUInt32.toInt32)), .unset] [(.int (u0 &&& (65535 : Int32)))])) _
                refine st7 _ ?_
                show Steps p.tables e below (s₁.setTop (mkF m 47 #[.val (.int u0), .val (.int (u0 &&& (65535 : Int32))), .val (.int ((u0 &&& (65535 : Int32)).toUInt32.toUInt16.toUInt32.toInt32)), .unset] [(.int (65533 : Int32)), (.int (u0 &&& (65535 : Int32)))])) _
                refine XS.icmpYes X0.here hx rfl (pc0 := 47) (pc' := 54) rfl (hb hby at_47) rfl (tlt hc47).2.2.1 (by decide) (by decide) ?_
                show Steps p.tables e below (s₁.setTop (mkF m 54 #[.val (.int u0), .val (.int (u0 &&& (65535 : Int32))), .val (.int ((u0 &&& (65535 : Int32)).toUInt32.toUInt16.toUInt32.toInt32)), .unset] [])) _
                refine XS.iconst X0.here hx rfl (hb hby at_54) ?_
                show Steps p.tables e below (s₁.setTop (mkF m 55 #[.val (.int u0), .val (.int (u0 &&& (65535 : Int32))), .val (.int ((u0 &&& (65535 : Int32)).toUInt32.toUInt16.toUInt32.toInt32)), .unset] [(.int (0 : Int32))])) _
                refine XS.istoreN X0.here hx rfl (hb hby at_55) rfl (l' := #[.val (.int u0), .val (.int (u0 &&& (65535 : Int32))), .val (.int ((u0 &&& (65535 : Int32)).toUInt32.toUInt16.toUInt32.toInt32)), .val (.int (0 : Int32))]) rfl ?_
                show Steps p.tables e below (s₁.setTop (mkF m 56 #[.val (.int u0), .val (.int (u0 &&& (65535 : Int32))), .val (.int ((u0 &&& (65535 : Int32)).toUInt32.toUInt16.toUInt32.toInt32)), .val (.int (0 : Int32))] [])) _
                refine XS.iloadN X0.here hx rfl (hb hby at_56) rfl ?_
                show Steps p.tables e below (s₁.setTop (mkF m 57 #[.val (.int u0), .val (.int (u0 &&& (65535 : Int32))), .val (.int ((u0 &&& (65535 : Int32)).toUInt32.toUInt16.toUInt32.toInt32)), .val (.int (0 : Int32))] [(.int ((u0 &&& (65535 : Int32)).toUInt32.toUInt16.toUInt32.toInt32))])) _
                refine st8 _ ?_
                show Steps p.tables e below (T8.setTop (mkF m 60 #[.val (.int u0), .val (.int (u0 &&& (65535 : Int32))), .val (.int ((u0 &&& (65535 : Int32)).toUInt32.toUInt16.toUInt32.toInt32)), .val (.int (0 : Int32))] [(.int (isAl ((u0 &&& (65535 : Int32)).toUInt32.toUInt16.toUInt32.toInt32)))])) _
                refine XS.iloadN X8.here hx rfl (hb hby at_60) rfl ?_
                show Steps p.tables e below (T8.setTop (mkF m 61 #[.val (.int u0), .val (.int (u0 &&& (65535 : Int32))), .val (.int ((u0 &&& (65535 : Int32)).toUInt32.toUInt16.toUInt32.toInt32)), .val (.int (0 : Int32))] [(.int (0 : Int32)), (.int (isAl ((u0 &&& (65535 : Int32)).toUInt32.toUInt16.toUInt32.toInt32)))])) _
                refine XS.icmpNo X8.here hx rfl (hb hby at_61) rfl (teq hb61).2 ?_
                show Steps p.tables e below (T8.setTop (mkF m 64 #[.val (.int u0), .val (.int (u0 &&& (65535 : Int32))), .val (.int ((u0 &&& (65535 : Int32)).toUInt32.toUInt16.toUInt32.toInt32)), .val (.int (0 : Int32))] [])) _
                refine XS.iconst X8.here hx rfl (hb hby at_64) ?_
                show Steps p.tables e below (T8.setTop (mkF m 65 #[.val (.int u0), .val (.int (u0 &&& (65535 : Int32))), .val (.int ((u0 &&& (65535 : Int32)).toUInt32.toUInt16.toUInt32.toInt32)), .val (.int (0 : Int32))] [(.int (1 : Int32))])) _
                refine XS.goto X8.here hx rfl (pc0 := 65) (pc' := 69) rfl (hb hby at_65) (by decide) (by decide) ?_
                show Steps p.tables e below (T8.setTop (mkF m 69 #[.val (.int u0), .val (.int (u0 &&& (65535 : Int32))), .val (.int ((u0 &&& (65535 : Int32)).toUInt32.toUInt16.toUInt32.toInt32)), .val (.int (0 : Int32))] [(.int (1 : Int32))])) _
                exact retN X8 hx (t := .boolean) Bd.returns (by simp) (hb hby at_69) hr
              · show Q0 Z u0 h0 n0 _ T8.heap _
                rw [e8]
                exact ⟨rfl, N8⟩
            · obtain ⟨_, _, ⟨T9, L9, k9, n9⟩, -, X9, ⟨Lc9, hQ9, l9, y9, z9⟩, st9⟩ := Jvm.LawKit.callS X0 hx (y := (⟨"com/example/rehydra/rehydra/XmlText", "isAllowedAlone", "(C)Z"⟩ : MethodName)) hown (mvT hZ (hw _ (List.mem_of_getElem? (i := 2) rfl))) (mvT hZ (hw _ (List.mem_of_getElem? (i := 3) rfl))) (mvT hZ (hw _ (List.mem_of_getElem? (i := 4) rfl))) (mvT hZ (hw _ (List.mem_of_getElem? (i := 5) rfl))) (by decide) (backOf (W := 0) (rm1 l Z a0 hw [] ((u0 &&& (65535 : Int32)).toUInt32.toUInt16.toUInt32.toInt32) h0 n0 Z0 ) hZ (hw _ (List.mem_of_getElem? (i := 5) rfl)) (hw _ (List.mem_of_getElem? (i := 4) rfl)) (by decide) (by decide)) (g := (mkF m 57 #[.val (.int u0), .val (.int (u0 &&& (65535 : Int32))), .val (.int ((u0 &&& (65535 : Int32)).toUInt32.toUInt16.toUInt32.toInt32)), .val (.int (1 : Int32))] [(.int ((u0 &&& (65535 : Int32)).toUInt32.toUInt16.toUInt32.toInt32))])) rfl (by rw [hml]; rfl) (argsL := [(.int ((u0 &&& (65535 : Int32)).toUInt32.toUInt16.toUInt32.toInt32))]) (rest := []) (lenOf pd_0 rfl) rfl (by show 2 * 0 + _ ≤ _; exact Nat.le_of_eq rfl) (hb hby at_57) (fun _ _ => ⟨rfl, e0, (by decide : 0 + 0 ≤ _), (by decide : 0 + 0 ≤ _)⟩)
              dsimp only [Pt.U, Pt.locs, Pt.cells, Pt.slots] at X9 l9 y9 z9 st9 hQ9
              subst l9 y9 z9
              obtain ⟨rfl, N9q, e9⟩ := hQ9
              have N9 := Fr.app N0 N9q
              have hb61 : (isAl ((u0 &&& (65535 : Int32)).toUInt32.toUInt16.toUInt32.toInt32)) = (1 : Int32) := by
                rw [own_eq (k := 9) (by decide)] at hc11
                rw [own_eq (k := 10) (by decide)] at hc17
                rw [own_eq (k := 13) (by decide)] at hc23
                rw [own_lt (k := 32) (by decide)] at hc29
                rw [own_lt (k := 57344) (by decide)] at hc41
                rw [own_gt (k := 65533) (by decide)] at hc47
                obtain ⟨q0, q1⟩ := own_code u0
                have q2 := own_i2c _ q0 q1
                unfold isAl
                exact if_pos (by rw [q2]; omega)
              obtain ⟨fs, hr, hrun, hended, hW, hsame⟩ := X9.leave (v := some (.int (1 : Int32))) (fun h => by rw [Bd.returns] at h; cases h)
              refine ⟨_, _, pre0 _ ?_, hrun, hended, _, _, rfl, ?_, ⟨_, rfl⟩, hW, hsame.mono (by decide) (by decide)⟩
              · show Steps p.tables e below (s₁.setTop (mkF m 0 #[.val (.int u0), .unset, .unset, .unset] [])) _
                refine XS.iloadN X0.here hx rfl (hb hby at_0) rfl ?_
                show Steps p.tables e below (s₁.setTop (mkF m 1 #[.val (.int u0), .unset, .unset, .unset] [(.int u0)])) _
                refine st1 _ ?_
                show Steps p.tables e below (s₁.setTop (mkF m 3 #[.val (.int u0), .unset, .unset, .unset] [(.int (65535 : Int32)), (.int u0)])) _
                refine XS.iand X0.here hx rfl (hb hby at_3) rfl ?_
                show Steps p.tables e below (s₁.setTop (mkF m 4 #[.val (.int u0), .unset, .unset, .unset] [(.int (u0 &&& (65535 : Int32)))])) _
                refine XS.istoreN X0.here hx rfl (hb hby at_4) rfl (l' := #[.val (.int u0), .val (.int (u0 &&& (65535 : Int32))), .unset, .unset]) rfl ?_
                show Steps p.tables e below (s₁.setTop (mkF m 5 #[.val (.int u0), .val (.int (u0 &&& (65535 : Int32))), .unset, .unset] [])) _
                refine XS.iloadN X0.here hx rfl (hb hby at_5) rfl ?_
                show Steps p.tables e below (s₁.setTop (mkF m 6 #[.val (.int u0), .val (.int (u0 &&& (65535 : Int32))), .unset, .unset] [(.int (u0 &&& (65535 : Int32)))])) _
                refine XS.i2c X0.here hx rfl (hb hby at_6) rfl ?_
                show Steps p.tables e below (s₁.setTop (mkF m 7 #[.val (.int u0), .val (.int (u0 &&& (65535 : Int32))), .unset, .unset] [(.int ((u0 &&& (65535 : Int32)).toUInt32.toUInt16.toUInt32.toInt32))])) _
                refine XS.istoreN X0.here hx rfl (hb hby at_7) rfl (l' := #[.val (.int u0), .val (.int (u0 &&& (65535 : Int32))), .val (.int ((u0 &&& (65535 : Int32)).toUInt32.toUInt16.toUInt32.toInt32)), .unset]) rfl ?_
                show Steps p.tables e below (s₁.setTop (mkF m 8 #[.val (.int u0), .val (.int (u0 &&& (65535 : Int32))), .val (.int ((u0 &&& (65535 : Int32)).toUInt32.toUInt16.toUInt32.toInt32)), .unset] [])) _
                refine XS.iloadN X0.here hx rfl (hb hby at_8) rfl ?_
                show Steps p.tables e below (s₁.setTop (mkF m 9 #[.val (.int u0), .val (.int (u0 &&& (65535 : Int32))), .val (.int ((u0 &&& (65535 : Int32)).toUInt32.toUInt16.toUInt32.toInt32)), .unset] [(.int (u0 &&& (65535 : Int32)))])) _
                refine XS.bipush X0.here hx rfl (hb hby at_9) ?_
                show Steps p.tables e below (s₁.setTop (mkF m 11 #[.val (.int u0), .val (.int (u0 &&& (65535 : Int32))), .val (.int ((u0 &&& (65535 : Int32)).toUInt32.toUInt16.toUInt32.toInt32)), .unset] [(.int (9 : Int32)), (.int (u0 &&& (65535 : Int32)))])) _
                refine XS.icmpNo X0.here hx rfl (hb hby at_11) rfl (feq hc11).1 ?_
                show Steps p.tables e below (s₁.setTop (mkF m 14 #[.val (.int u0), .val (.int (u0 &&& (65535 : Int32))), .val (.int ((u0 &&& (65535 : Int32)).toUInt32.toUInt16.toUInt32.toInt32)), .unset] [])) _
                refine XS.iloadN X0.here hx rfl (hb hby at_14) rfl ?_
                show Steps p.tables e below (s₁.setTop (mkF m 15 #[.val (.int u0), .val (.int (u0 &&& (65535 : Int32))), .val (.int ((u0 &&& (65535 : Int32)).toUInt32.toUInt16.toUInt32.toInt32)), .unset] [(.int (u0 &&& (65535 : Int32)))])) _
                refine XS.bipush X0.here hx rfl (hb hby at_15) ?_
                show Steps p.tables e below (s₁.setTop (mkF m 17 #[.val (.int u0), .val (.int (u0 &&& (65535 : Int32))), .val (.int ((u0 &&& (65535 : Int32)).toUInt32.toUInt16.toUInt32.toInt32)), .unset] [(.int (10 : Int32)), (.int (u0 &&& (65535 : Int32)))])) _
                refine XS.icmpNo X0.here hx rfl (hb hby at_17) rfl (feq hc17).1 ?_
                show Steps p.tables e below (s₁.setTop (mkF m 20 #[.val (.int u0), .val (.int (u0 &&& (65535 : Int32))), .val (.int ((u0 &&& (65535 : Int32)).toUInt32.toUInt16.toUInt32.toInt32)), .unset] [])) _
                refine XS.iloadN X0.here hx rfl (hb hby at_20) rfl ?_
                show Steps p.tables e below (s₁.setTop (mkF m 21 #[.val (.int u0), .val (.int (u0 &&& (65535 : Int32))), .val (.int ((u0 &&& (65535 : Int32)).toUInt32.toUInt16.toUInt32.toInt32)), .unset] [(.int (u0 &&& (65535 : Int32)))])) _
                refine XS.bipush X0.here hx rfl (hb hby at_21) ?_
                show Steps p.tables e below (s₁.setTop (mkF m 23 #[.val (.int u0), .val (.int (u0 &&& (65535 : Int32))), .val (.int ((u0 &&& (65535 : Int32)).toUInt32.toUInt16.toUInt32.toInt32)), .unset] [(.int (13 : Int32)), (.int (u0 &&& (65535 : Int32)))])) _
                refine XS.icmpNo X0.here hx rfl (hb hby at_23) rfl (feq hc23).1 ?_
                show Steps p.tables e below (s₁.setTop (mkF m 26 #[.val (.int u0), .val (.int (u0 &&& (65535 : Int32))), .val (.int ((u0 &&& (65535 : Int32)).toUInt32.toUInt16.toUInt32.toInt32)), .unset] [])) _
                refine XS.iloadN X0.here hx rfl (hb hby at_26) rfl ?_
                show Steps p.tables e below (s₁.setTop (mkF m 27 #[.val (.int u0), .val (.int (u0 &&& (65535 : Int32))), .val (.int ((u0 &&& (65535 : Int32)).toUInt32.toUInt16.toUInt32.toInt32)), .unset] [(.int (u0 &&& (65535 : Int32)))])) _
                refine XS.bipush X0.here hx rfl (hb hby at_27) ?_
                show Steps p.tables e below (s₁.setTop (mkF m 29 #[.val (.int u0), .val (.int (u0 &&& (65535 : Int32))), .val (.int ((u0 &&& (65535 : Int32)).toUInt32.toUInt16.toUInt32.toInt32)), .unset] [(.int (32 : Int32)), (.int (u0 &&& (65535 : Int32)))])) _
                refine XS.icmpYes X0.here hx rfl (pc0 := 29) (pc' := 38) rfl (hb hby at_29) rfl (tlt hc29).1 (by decide) (by decide) ?_
                show Steps p.tables e below (s₁.setTop (mkF m 38 #[.val (.int u0), .val (.int (u0 &&& (65535 : Int32))), .val (.int ((u0 &&& (65535 : Int32)).toUInt32.toUInt16.toUInt32.toInt32)), .unset] [])) _
                refine XS.iloadN X0.here hx rfl (hb hby at_38) rfl ?_
                show Steps p.tables e below (s₁.setTop (mkF m 39 #[.val (.int u0), .val (.int (u0 &&& (65535 : Int32))), .val (.int ((u0 &&& (65535 : Int32)).toUInt32.toUInt16.toUInt32.toInt32)), .unset] [(.int (u0 &&& (65535 : Int32)))])) _
                refine st5 _ ?_
                show Steps p.tables e below (s₁.setTop (mkF m 41 #[.val (.int u0), .val (.int (u0 &&& (65535 : Int32))), .val (.int ((u0 &&& (65535 : Int32)).toUInt32.toUInt16.toUInt32.toInt32)), .unset] [(.int (57344 : Int32)), (.int (u0 &&& (65535 : Int32)))])) _
                refine XS.icmpNo X0.here hx rfl (hb hby at_41) rfl (flt hc41).1 ?_
                show Steps p.tables e below (s₁.setTop (mkF m 44 #[.val (.int u0), .val (.int (u0 &&& (65535 : Int32))), .val (.int ((u0 &&& (65535 : Int32)).toUInt32.toUInt16.toUInt32.toInt32)), .unset] [])) _
                refine XS.iloadN X0.here hx rfl (hb hby at_44) rfl ?_
                show Steps p.tables e below (s₁.setTop (mkF m 45 #[.val (.int u0), .val (.int (u0 &&& (65535 : Int32))), .val (.int ((u0 &&& (65535 : Int32)).toUInt32.toUInt16.toUInt32.toInt32)), .unset] [(.int (u0 &&& (65535 : Int32)))])) _
                refine st7 _ ?_
                show Steps p.tables e below (s₁.setTop (mkF m 47 #[.val (.int u0), .val (.int (u0 &&& (65535 : Int32))), .val (.int ((u0 &&& (65535 : Int32)).toUInt32.toUInt16.toUInt32.toInt32)), .unset] [(.int (65533 : Int32)), (.int (u0 &&& (65535 : Int32)))])) _
                refine XS.icmpNo X0.here hx rfl (hb hby at_47) rfl (flt hc47).2.2.1 ?_
                show Steps p.tables e below (s₁.setTop (mkF m 50 #[.val (.int u0), .val (.int (u0 &&& (65535 : Int32))), .val (.int ((u0 &&& (65535 : Int32)).toUInt32.toUInt16.toUInt32.toInt32)), .unset] [])) _
                refine XS.iconst X0.here hx rfl (hb hby at_50) ?_
                show Steps p.tables e below (s₁.setTop (mkF m 51 #[.val (.int u0), .val (.int (u0 &&& (65535 : Int32))), .val (.int ((u0 &&& (65535 : Int32)).toUInt32.toUInt16.toUInt32.toInt32)), .unset] [(.int (1 : Int32))])) _
                refine XS.goto X0.here hx rfl (pc0 := 51) (pc' := 55) rfl (hb hby at_51) (by decide) (by decide) ?_
                show Steps p.tables e below (s₁.setTop (mkF m 55 #[.val (.int u0), .val (.int (u0 &&& (65535 : Int32))), .val (.int ((u0 &&& (65535 : Int32)).toUInt32.toUInt16.toUInt32.toInt32)), .unset] [(.int (1 : Int32))])) _
                refine XS.istoreN X0.here hx rfl (hb hby at_55) rfl (l' := #[.val (.int u0), .val (.int (u0 &&& (65535 : Int32))), .val (.int ((u0 &&& (65535 : Int32)).toUInt32.toUInt16.toUInt32.toInt32)), .val (.int (1 : Int32))]) rfl ?_
                show Steps p.tables e below (s₁.setTop (mkF m 56 #[.val (.int u0), .val (.int (u0 &&& (65535 : Int32))), .val (.int ((u0 &&& (65535 : Int32)).toUInt32.toUInt16.toUInt32.toInt32)), .val (.int (1 : Int32))] [])) _
                refine XS.iloadN X0.here hx rfl (hb hby at_56) rfl ?_
                show Steps p.tables e below (s₁.setTop (mkF m 57 #[.val (.int u0), .val (.int (u0 &&& (65535 : Int32))), .val (.int ((u0 &&& (65535 : Int32)).toUInt32.toUInt16.toUInt32.toInt32)), .val (.int (1 : Int32))] [(.int ((u0 &&& (65535 : Int32)).toUInt32.toUInt16.toUInt32.toInt32))])) _
                refine st9 _ ?_
                show Steps p.tables e below (T9.setTop (mkF m 60 #[.val (.int u0), .val (.int (u0 &&& (65535 : Int32))), .val (.int ((u0 &&& (65535 : Int32)).toUInt32.toUInt16.toUInt32.toInt32)), .val (.int (1 : Int32))] [(.int (isAl ((u0 &&& (65535 : Int32)).toUInt32.toUInt16.toUInt32.toInt32)))])) _
                refine XS.iloadN X9.here hx rfl (hb hby at_60) rfl ?_
                show Steps p.tables e below (T9.setTop (mkF m 61 #[.val (.int u0), .val (.int (u0 &&& (65535 : Int32))), .val (.int ((u0 &&& (65535 : Int32)).toUInt32.toUInt16.toUInt32.toInt32)), .val (.int (1 : Int32))] [(.int (1 : Int32)), (.int (isAl ((u0 &&& (65535 : Int32)).toUInt32.toUInt16.toUInt32.toInt32)))])) _
                refine XS.icmpNo X9.here hx rfl (hb hby at_61) rfl (teq hb61).2 ?_
                show Steps p.tables e below (T9.setTop (mkF m 64 #[.val (.int u0), .val (.int (u0 &&& (65535 : Int32))), .val (.int ((u0 &&& (65535 : Int32)).toUInt32.toUInt16.toUInt32.toInt32)), .val (.int (1 : Int32))] [])) _
                refine XS.iconst X9.here hx rfl (hb hby at_64) ?_
                show Steps p.tables e below (T9.setTop (mkF m 65 #[.val (.int u0), .val (.int (u0 &&& (65535 : Int32))), .val (.int ((u0 &&& (65535 : Int32)).toUInt32.toUInt16.toUInt32.toInt32)), .val (.int (1 : Int32))] [(.int (1 : Int32))])) _
                refine XS.goto X9.here hx rfl (pc0 := 65) (pc' := 69) rfl (hb hby at_65) (by decide) (by decide) ?_
                show Steps p.tables e below (T9.setTop (mkF m 69 #[.val (.int u0), .val (.int (u0 &&& (65535 : Int32))), .val (.int ((u0 &&& (65535 : Int32)).toUInt32.toUInt16.toUInt32.toInt32)), .val (.int (1 : Int32))] [(.int (1 : Int32))])) _
                exact retN X9 hx (t := .boolean) Bd.returns (by simp) (hb hby at_69) hr
              · show Q0 Z u0 h0 n0 _ T9.heap _
                rw [e9]
                exact ⟨rfl, N9⟩
        · have st10 := X0.ldcInt hx hown (mvT hZ (hw _ (List.mem_of_getElem? (i := 6) rfl))) (g := (mkF m 33 #[.val (.int u0), .val (.int (u0 &&& (65535 : Int32))), .val (.int ((u0 &&& (65535 : Int32)).toUInt32.toUInt16.toUInt32.toInt32)), .unset] [(.int (u0 &&& (65535 : Int32)))])) rfl (hb hby at_33)
          by_cases hc35 : (55295 : Int32) < (u0 &&& (65535 : Int32))
          · have st11 := X0.ldcInt hx hown (mvT hZ (hw _ (List.mem_of_getElem? (i := 1) rfl))) (g := (mkF m 39 #[.val (.int u0), .val (.int (u0 &&& (65535 : Int32))), .val (.int ((u0 &&& (65535 : Int32)).toUInt32.toUInt16.toUInt32.toInt32)), .unset] [(.int (u0 &&& (65535 : Int32)))])) rfl (hb hby at_39)
            by_cases hc41 : (u0 &&& (65535 : Int32)) < (57344 : Int32)
            · obtain ⟨_, _, ⟨T12, L12, k12, n12⟩, -, X12, ⟨Lc12, hQ12, l12, y12, z12⟩, st12⟩ := Jvm.LawKit.callS X0 hx (y := (⟨"com/example/rehydra/rehydra/XmlText", "isAllowedAlone", "(C)Z"⟩ : MethodName)) hown (mvT hZ (hw _ (List.mem_of_getElem? (i := 2) rfl))) (mvT hZ (hw _ (List.mem_of_getElem? (i := 3) rfl))) (mvT hZ (hw _ (List.mem_of_getElem? (i := 4) rfl))) (mvT hZ (hw _ (List.mem_of_getElem? (i := 5) rfl))) (by decide) (backOf (W := 0) (rm1 l Z a0 hw [] ((u0 &&& (65535 : Int32)).toUInt32.toUInt16.toUInt32.toInt32) h0 n0 Z0 ) hZ (hw _ (List.mem_of_getElem? (i := 5) rfl)) (hw _ (List.mem_of_getElem? (i := 4) rfl)) (by decide) (by decide)) (g := (mkF m 57 #[.val (.int u0), .val (.int (u0 &&& (65535 : Int32))), .val (.int ((u0 &&& (65535 : Int32)).toUInt32.toUInt16.toUInt32.toInt32)), .val (.int (0 : Int32))] [(.int ((u0 &&& (65535 : Int32)).toUInt32.toUInt16.toUInt32.toInt32))])) rfl (by rw [hml]; rfl) (argsL := [(.int ((u0 &&& (65535 : Int32)).toUInt32.toUInt16.toUInt32.toInt32))]) (rest := []) (lenOf pd_0 rfl) rfl (by show 2 * 0 + _ ≤ _; exact Nat.le_of_eq rfl) (hb hby at_57) (fun _ _ => ⟨rfl, e0, (by decide : 0 + 0 ≤ _), (by decide : 0 + 0 ≤ _)⟩)
              dsimp only [Pt.U, Pt.locs, Pt.cells, Pt.slots] at X12 l12 y12 z12 st12 hQ12
              subst l12 y12 z12
              obtain ⟨rfl, N12q, e12⟩ := hQ12
              have N12 := Fr.app N0 N12q
              have hb61 : (isAl ((u0 &&& (65535 : Int32)).toUInt32.toUInt16.toUInt32.toInt32)) = (0 : Int32) := by
                rw [own_eq (k := 9) (by decide)] at hc11
                rw [own_eq (k := 10) (by decide)] at hc17
                rw [own_eq (k := 13) (by decide)] at hc23
                rw [own_lt (k := 32) (by decide)] at hc29
                rw [own_gt (k := 55295) (by decide)] at hc35
                rw [own_lt (k := 57344) (by decide)] at hc41
                obtain ⟨q0, q1⟩ := own_code u0
                have q2 := own_i2c _ q0 q1
                unfold isAl
                exact if_neg (by rw [q2]; omega)
              obtain ⟨fs, hr, hrun, hended, hW, hsame⟩ := X12.leave (v := some (.int (1 : Int32))) (fun h => by rw [Bd.returns] at h; cases h)
              refine ⟨_, _, pre0 _ ?_, hrun, hended, _, _, rfl, ?_, ⟨_, rfl⟩, hW, hsame.mono (by decide) (by decide)⟩
              · show Steps p.tables e below (s₁.setTop (mkF m 0 #[.val (.int u0), .unset, .unset, .unset] [])) _
                refine XS.iloadN X0.here hx rfl (hb hby at_0) rfl ?_
                show Steps p.tables e below (s₁.setTop (mkF m 1 #[.val (.int u0), .unset, .unset, .unset] [(.int u0)])) _
                refine st1 _ ?_
                show Steps p.tables e below (s₁.setTop (mkF m 3 #[.val (.int u0), .unset, .unset, .unset] [(.int (65535 : Int32)), (.int u0)])) _
                refine XS.iand X0.here hx rfl (hb hby at_3) rfl ?_
                show Steps p.tables e below (s₁.setTop (mkF m 4 #[.val (.int u0), .unset, .unset, .unset] [(.int (u0 &&& (65535 : Int32)))])) _
                refine XS.istoreN X0.here hx rfl (hb hby at_4) rfl (l' := #[.val (.int u0), .val (.int (u0 &&& (65535 : Int32))), .unset, .unset]) rfl ?_
                show Steps p.tables e below (s₁.setTop (mkF m 5 #[.val (.int u0), .val (.int (u0 &&& (65535 : Int32))), .unset, .unset] [])) _
                refine XS.iloadN X0.here hx rfl (hb hby at_5) rfl ?_
                show Steps p.tables e below (s₁.setTop (mkF m 6 #[.val (.int u0), .val (.int (u0 &&& (65535 : Int32))), .unset, .unset] [(.int (u0 &&& (65535 : Int32)))])) _
                refine XS.i2c X0.here hx rfl (hb hby at_6) rfl ?_
                show Steps p.tables e below (s₁.setTop (mkF m 7 #[.val (.int u0), .val (.int (u0 &&& (65535 : Int32))), .unset, .unset] [(.int ((u0 &&& (65535 : Int32)).toUInt32.toUInt16.toUInt32.toInt32))])) _
                refine XS.istoreN X0.here hx rfl (hb hby at_7) rfl (l' := #[.val (.int u0), .val (.int (u0 &&& (65535 : Int32))), .val (.int ((u0 &&& (65535 : Int32)).toUInt32.toUInt16.toUInt32.toInt32)), .unset]) rfl ?_
                show Steps p.tables e below (s₁.setTop (mkF m 8 #[.val (.int u0), .val (.int (u0 &&& (65535 : Int32))), .val (.int ((u0 &&& (65535 : Int32)).toUInt32.toUInt16.toUInt32.toInt32)), .unset] [])) _
                refine XS.iloadN X0.here hx rfl (hb hby at_8) rfl ?_
                show Steps p.tables e below (s₁.setTop (mkF m 9 #[.val (.int u0), .val (.int (u0 &&& (65535 : Int32))), .val (.int ((u0 &&& (65535 : Int32)).toUInt32.toUInt16.toUInt32.toInt32)), .unset] [(.int (u0 &&& (65535 : Int32)))])) _
                refine XS.bipush X0.here hx rfl (hb hby at_9) ?_
                show Steps p.tables e below (s₁.setTop (mkF m 11 #[.val (.int u0), .val (.int (u0 &&& (65535 : Int32))), .val (.int ((u0 &&& (65535 : Int32)).toUInt32.toUInt16.toUInt32.toInt32)), .unset] [(.int (9 : Int32)), (.int (u0 &&& (65535 : Int32)))])) _
                refine XS.icmpNo X0.here hx rfl (hb hby at_11) rfl (feq hc11).1 ?_
                show Steps p.tables e below (s₁.setTop (mkF m 14 #[.val (.int u0), .val (.int (u0 &&& (65535 : Int32))), .val (.int ((u0 &&& (65535 : Int32)).toUInt32.toUInt16.toUInt32.toInt32)), .unset] [])) _
                refine XS.iloadN X0.here hx rfl (hb hby at_14) rfl ?_
                show Steps p.tables e below (s₁.setTop (mkF m 15 #[.val (.int u0), .val (.int (u0 &&& (65535 : Int32))), .val (.int ((u0 &&& (65535 : Int32)).toUInt32.toUInt16.toUInt32.toInt32)), .unset] [(.int (u0 &&& (65535 : Int32)))])) _
                refine XS.bipush X0.here hx rfl (hb hby at_15) ?_
                show Steps p.tables e below (s₁.setTop (mkF m 17 #[.val (.int u0), .val (.int (u0 &&& (65535 : Int32))), .val (.int ((u0 &&& (65535 : Int32)).toUInt32.toUInt16.toUInt32.toInt32)), .unset] [(.int (10 : Int32)), (.int (u0 &&& (65535 : Int32)))])) _
                refine XS.icmpNo X0.here hx rfl (hb hby at_17) rfl (feq hc17).1 ?_
                show Steps p.tables e below (s₁.setTop (mkF m 20 #[.val (.int u0), .val (.int (u0 &&& (65535 : Int32))), .val (.int ((u0 &&& (65535 : Int32)).toUInt32.toUInt16.toUInt32.toInt32)), .unset] [])) _
                refine XS.iloadN X0.here hx rfl (hb hby at_20) rfl ?_
                show Steps p.tables e below (s₁.setTop (mkF m 21 #[.val (.int u0), .val (.int (u0 &&& (65535 : Int32))), .val (.int ((u0 &&& (65535 : Int32)).toUInt32.toUInt16.toUInt32.toInt32)), .unset] [(.int (u0 &&& (65535 : Int32)))])) _
                refine XS.bipush X0.here hx rfl (hb hby at_21) ?_
                show Steps p.tables e below (s₁.setTop (mkF m 23 #[.val (.int u0), .val (.int (u0 &&& (65535 : Int32))), .val (.int ((u0 &&& (65535 : Int32)).toUInt32.toUInt16.toUInt32.toInt32)), .unset] [(.int (13 : Int32)), (.int (u0 &&& (65535 : Int32)))])) _
                refine XS.icmpNo X0.here hx rfl (hb hby at_23) rfl (feq hc23).1 ?_
                show Steps p.tables e below (s₁.setTop (mkF m 26 #[.val (.int u0), .val (.int (u0 &&& (65535 : Int32))), .val (.int ((u0 &&& (65535 : Int32)).toUInt32.toUInt16.toUInt32.toInt32)), .unset] [])) _
                refine XS.iloadN X0.here hx rfl (hb hby at_26) rfl ?_
                show Steps p.tables e below (s₁.setTop (mkF m 27 #[.val (.int u0), .val (.int (u0 &&& (65535 : Int32))), .val (.int ((u0 &&& (65535 : Int32)).toUInt32.toUInt16.toUInt32.toInt32)), .unset] [(.int (u0 &&& (65535 : Int32)))])) _
                refine XS.bipush X0.here hx rfl (hb hby at_27) ?_
                show Steps p.tables e below (s₁.setTop (mkF m 29 #[.val (.int u0), .val (.int (u0 &&& (65535 : Int32))), .val (.int ((u0 &&& (65535 : Int32)).toUInt32.toUInt16.toUInt32.toInt32)), .unset] [(.int (32 : Int32)), (.int (u0 &&& (65535 : Int32)))])) _
                refine XS.icmpNo X0.here hx rfl (hb hby at_29) rfl (flt hc29).1 ?_
                show Steps p.tables e below (s₁.setTop (mkF m 32 #[.val (.int u0), .val (.int (u0 &&& (65535 : Int32))), .val (.int ((u0 &&& (65535 : Int32)).toUInt32.toUInt16.toUInt32.toInt32)), .unset] [])) _
                refine XS.iloadN X0.here hx rfl (hb hby at_32) rfl ?_
                show Steps p.tables e below (s₁.setTop (mkF m 33 #[.val (.int u0), .val (.int (u0 &&& (65535 : Int32))), .val (.int ((u0 &&& (65535 : Int32)).toUInt32.toUInt16.toUInt32.toInt32)), .unset] [(.int (u0 &&& (65535 : Int32)))])) _
                refine st10 _ ?_
                show Steps p.tables e below (s₁.setTop (mkF m 35 #[.val (.int u0), .val (.int (u0 &&& (65535 : Int32))), .val (.int ((u0 &&& (65535 : Int32)).toUInt32.toUInt16.toUInt32.toInt32)), .unset] [(.int (55295 : Int32)), (.int (u0 &&& (65535 : Int32)))])) _
                refine XS.icmpNo X0.here hx rfl (hb hby at_35) rfl (tlt hc35).2.2.2 ?_
                show Steps p.tables e below (s₁.setTop (mkF m 38 #[.val (.int u0), .val (.int (u0 &&& (65535 : Int32))), .val (.int ((u0 &&& (65535 : Int32)).toUInt32.toUInt16.toUInt32.toInt32)), .unset] [])) _
                refine XS.iloadN X0.here hx rfl (hb hby at_38) rfl ?_
                show Steps p.tables e below (s₁.setTop (mkF m 39 #[.val (.int u0), .val (.int (u0 &&& (65535 : Int32))), .val (.int ((u0 &&& (65535 : Int32)).toUInt32.toUInt16.toUInt32.toInt32)), .unset] [(.int (u0 &&& (65535 : Int32)))])) _
                refine st11 _ ?_
                show Steps p.tables e below (s₁.setTop (mkF m 41 #[.val (.int u0), .val (.int (u0 &&& (65535 : Int32))), .val (.int ((u0 &&& (65535 : Int32)).toUInt32.toUInt16.toUInt32.toInt32)), .unset] [(.int (57344 : Int32)), (.int (u0 &&& (65535 : Int32)))])) _
                refine XS.icmpYes X0.here hx rfl (pc0 := 41) (pc' := 54) rfl (hb hby at_41) rfl (tlt hc41).1 (by decide) (by decide) ?_
                show Steps p.tables e below (s₁.setTop (mkF m 54 #[.val (.int u0), .val (.int (u0 &&& (65535 : Int32))), .val (.int ((u0 &&& (65535 : Int32)).toUInt32.toUInt16.toUInt32.toInt32)), .unset] [])) _
                refine XS.iconst X0.here hx rfl (hb hby at_54) ?_
                show Steps p.tables e below (s₁.setTop (mkF m 55 #[.val (.int u0), .val (.int (u0 &&& (65535 : Int32))), .val (.int ((u0 &&& (65535 : Int32)).toUInt32.toUInt16.toUInt32.toInt32)), .unset] [(.int (0 : Int32))])) _
                refine XS.istoreN X0.here hx rfl (hb hby at_55) rfl (l' := #[.val (.int u0), .val (.int (u0 &&& (65535 : Int32))), .val (.int ((u0 &&& (65535 : Int32)).toUInt32.toUInt16.toUInt32.toInt32)), .val (.int (0 : Int32))]) rfl ?_
                show Steps p.tables e below (s₁.setTop (mkF m 56 #[.val (.int u0), .val (.int (u0 &&& (65535 : Int32))), .val (.int ((u0 &&& (65535 : Int32)).toUInt32.toUInt16.toUInt32.toInt32)), .val (.int (0 : Int32))] [])) _
                refine XS.iloadN X0.here hx rfl (hb hby at_56) rfl ?_
                show Steps p.tables e below (s₁.setTop (mkF m 57 #[.val (.int u0), .val (.int (u0 &&& (65535 : Int32))), .val (.int ((u0 &&& (65535 : Int32)).toUInt32.toUInt16.toUInt32.toInt32)), .val (.int (0 : Int32))] [(.int ((u0 &&& (65535 : Int32)).toUInt32.toUInt16.toUInt32.toInt32))])) _
                refine st12 _ ?_
                show Steps p.tables e below (T12.setTop (mkF m 60 #[.val (.int u0), .val (.int (u0 &&& (65535 : Int32))), .val (.int ((u0 &&& (65535 : Int32)).toUInt32.toUInt16.toUInt32.toInt32)), .val (.int (0 : Int32))] [(.int (isAl ((u0 &&& (65535 : Int32)).toUInt32.toUInt16.toUInt32.toInt32)))])) _
                refine XS.iloadN X12.here hx rfl (hb hby at_60) rfl ?_
                show Steps p.tables e below (T12.setTop (mkF m 61 #[.val (.int u0), .val (.int (u0 &&& (65535 : Int32))), .val (.int ((u0 &&& (65535 : Int32)).toUInt32.toUInt16.toUInt32.toInt32)), .val (.int (0 : Int32))] [(.int (0 : Int32)), (.int (isAl ((u0 &&& (65535 : Int32)).toUInt32.toUInt16.toUInt32.toInt32)))])) _
                refine XS.icmpNo X12.here hx rfl (hb hby at_61) rfl (teq hb61).2 ?_
                show Steps p.tables e below (T12.setTop (mkF m 64 #[.val (.int u0), .val (.int (u0 &&& (65535 : Int32))), .val (.int ((u0 &&& (65535 : Int32)).toUInt32.toUInt16.toUInt32.toInt32)), .val (.int (0 : Int32))] [])) _
                refine XS.iconst X12.here hx rfl (hb hby at_64) ?_
                show Steps p.tables e below (T12.setTop (mkF m 65 #[.val (.int u0), .val (.int (u0 &&& (65535 : Int32))), .val (.int ((u0 &&& (65535 : Int32)).toUInt32.toUInt16.toUInt32.toInt32)), .val (.int (0 : Int32))] [(.int (1 : Int32))])) _
                refine XS.goto X12.here hx rfl (pc0 := 65) (pc' := 69) rfl (hb hby at_65) (by decide) (by decide) ?_
                show Steps p.tables e below (T12.setTop (mkF m 69 #[.val (.int u0), .val (.int (u0 &&& (65535 : Int32))), .val (.int ((u0 &&& (65535 : Int32)).toUInt32.toUInt16.toUInt32.toInt32)), .val (.int (0 : Int32))] [(.int (1 : Int32))])) _
                exact retN X12 hx (t := .boolean) Bd.returns (by simp) (hb hby at_69) hr
              · show Q0 Z u0 h0 n0 _ T12.heap _
                rw [e12]
                exact ⟨rfl, N12⟩
            · have st13 := X0.ldcInt hx hown (mvT hZ (hw _ (List.mem_of_getElem? (i := 14) rfl))) (g := (mkF m 45 #[.val (.int u0), .val (.int (u0 &&& (65535 : Int32))), .val (.int ((u0 &&& (65535 : Int32)).toUInt32.toUInt16.toUInt32.toInt32)), .unset] [(.int (u0 &&& (65535 : Int32)))])) rfl (hb hby at_45)
              by_cases hc47 : (65533 : Int32) < (u0 &&& (65535 : Int32))
              · obtain ⟨_, _, ⟨T14, L14, k14, n14⟩, -, X14, ⟨Lc14, hQ14, l14, y14, z14⟩, st14⟩ := Jvm.LawKit.callS X0 hx (y := (⟨"com/example/rehydra/rehydra/XmlText", "isAllowedAlone", "(C)Z"⟩ : MethodName)) hown (mvT hZ (hw _ (List.mem_of_getElem? (i := 2) rfl))) (mvT hZ (hw _ (List.mem_of_getElem? (i := 3) rfl))) (mvT hZ (hw _ (List.mem_of_getElem? (i := 4) rfl))) (mvT hZ (hw _ (List.mem_of_getElem? (i := 5) rfl))) (by decide) (backOf (W := 0) (rm1 l Z a0 hw [] ((u0 &&& (65535 : Int32)).toUInt32.toUInt16.toUInt32.toInt32) h0 n0 Z0 ) hZ (hw _ (List.mem_of_getElem? (i := 5) rfl)) (hw _ (List.mem_of_getElem? (i := 4) rfl)) (by decide) (by decide)) (g := (mkF m 57 #[.val (.int u0), .val (.int (u0 &&& (65535 : Int32))), .val (.int ((u0 &&& (65535 : Int32)).toUInt32.toUInt16.toUInt32.toInt32)), .val (.int (0 : Int32))] [(.int ((u0 &&& (65535 : Int32)).toUInt32.toUInt16.toUInt32.toInt32))])) rfl (by rw [hml]; rfl) (argsL := [(.int ((u0 &&& (65535 : Int32)).toUInt32.toUInt16.toUInt32.toInt32))]) (rest := []) (lenOf pd_0 rfl) rfl (by show 2 * 0 + _ ≤ _; exact Nat.le_of_eq rfl) (hb hby at_57) (fun _ _ => ⟨rfl, e0, (by decide : 0 + 0 ≤ _), (by decide : 0 + 0 ≤ _)⟩)
                dsimp only [Pt.U, Pt.locs, Pt.cells, Pt.slots] at X14 l14 y14 z14 st14 hQ14
                subst l14 y14 z14
                obtain ⟨rfl, N14q, e14⟩ := hQ14
                have N14 := Fr.app N0 N14q
                have hb61 : (isAl ((u0 &&& (65535 : Int32)).toUInt32.toUInt16.toUInt32.toInt32)) = (0 : Int32) := by
                  rw [own_eq (k := 9) (by decide)] at hc11
                  rw [own_eq (k := 10) (by decide)] at hc17
                  rw [own_eq (k := 13) (by decide)] at hc23
                  rw [own_lt (k := 32) (by decide)] at hc29
                  rw [own_gt (k := 55295) (by decide)] at hc35
                  rw [own_lt (k := 57344) (by decide)] at hc41
                  rw [own_gt (k := 65533) (by decide)] at hc47
                  obtain ⟨q0, q1⟩ := own_code u0
                  have q2 := own_i2c _ q0 q1
                  unfold isAl
                  exact if_neg (by rw [q2]; omega)
                obtain ⟨fs, hr, hrun, hended, hW, hsame⟩ := X14.leave (v := some (.int (1 : Int32))) (fun h => by rw [Bd.returns] at h; cases h)
                refine ⟨_, _, pre0 _ ?_, hrun, hended, _, _, rfl, ?_, ⟨_, rfl⟩, hW, hsame.mono (by decide) (by decide)⟩
                · show Steps p.tables e below (s₁.setTop (mkF m 0 #[.val (.int u0), .unset, .unset, .unset] [])) _
                  refine XS.iloadN X0.here hx rfl (hb hby at_0) rfl ?_
                  show Steps p.tables e below (s₁.setTop (mkF m 1 #[.val (.int u0), .unset, .unset, .unset] [(.int u0)])) _
                  refine st1 _ ?_
                  show Steps p.tables e below (s₁.setTop (mkF m 3 #[.val (.int u0), .unset, .unset, .unset] [(.int (65535 : Int32)), (.int u0)])) _
                  refine XS.iand X0.here hx rfl (hb hby at_3) rfl ?_
                  show Steps p.tables e below (s₁.setTop (mkF m 4 #[.val (.int u0), .unset, .unset, .unset] [(.int (u0 &&& (65535 : Int32)))])) _
                  refine XS.istoreN X0.here hx rfl (hb hby at_4) rfl (l' := #[.val (.int u0), .val (.int (u0 &&& (65535 : Int32))), .unset, .unset]) rfl ?_
                  show Steps p.tables e below (s₁.setTop (mkF m 5 #[.val (.int u0), .val (.int (u0 &&& (65535 : Int32))), .unset, .unset] [])) _
                  refine XS.iloadN X0.here hx rfl (hb hby at_5) rfl ?_
                  show Steps p.tables e below (s₁.setTop (mkF m 6 #[.val (.int u0), .val (.int (u0 &&& (65535 : Int32))), .unset, .unset] [(.int (u0 &&& (65535 : Int32)))])) _
                  refine XS.i2c X0.here hx rfl (hb hby at_6) rfl ?_
                  show Steps p.tables e below (s₁.setTop (mkF m 7 #[.val (.int u0), .val (.int (u0 &&& (65535 : Int32))), .unset, .unset] [(.int ((u0 &&& (65535 : Int32)).toUInt32.toUInt16.toUInt32.toInt32))])) _
                  refine XS.istoreN X0.here hx rfl (hb hby at_7) rfl (l' := #[.val (.int u0), .val (.int (u0 &&& (65535 : Int32))), .val (.int ((u0 &&& (65535 : Int32)).toUInt32.toUInt16.toUInt32.toInt32)), .unset]) rfl ?_
                  show Steps p.tables e below (s₁.setTop (mkF m 8 #[.val (.int u0), .val (.int (u0 &&& (65535 : Int32))), .val (.int ((u0 &&& (65535 : Int32)).toUInt32.toUInt16.toUInt32.toInt32)), .unset] [])) _
                  refine XS.iloadN X0.here hx rfl (hb hby at_8) rfl ?_
                  show Steps p.tables e below (s₁.setTop (mkF m 9 #[.val (.int u0), .val (.int (u0 &&& (65535 : Int32))), .val (.int ((u0 &&& (65535 : Int32)).toUInt32.toUInt16.toUInt32.toInt32)), .unset] [(.int (u0 &&& (65535 : Int32)))])) _
                  refine XS.bipush X0.here hx rfl (hb hby at_9) ?_
                  show Steps p.tables e below (s₁.setTop (mkF m 11 #[.val (.int u0), .val (.int (u0 &&& (65535 : Int32))), .val (.int ((u0 &&& (65535 : Int32)).toUInt32.toUInt16.toUInt32.toInt32)), .unset] [(.int (9 : Int32)), (.int (u0 &&& (65535 : Int32)))])) _
                  refine XS.icmpNo X0.here hx rfl (hb hby at_11) rfl (feq hc11).1 ?_
                  show Steps p.tables e below (s₁.setTop (mkF m 14 #[.val (.int u0), .val (.int (u0 &&& (65535 : Int32))), .val (.int ((u0 &&& (65535 : Int32)).toUInt32.toUInt16.toUInt32.toInt32)), .unset] [])) _
                  refine XS.iloadN X0.here hx rfl (hb hby at_14) rfl ?_
                  show Steps p.tables e below (s₁.setTop (mkF m 15 #[.val (.int u0), .val (.int (u0 &&& (65535 : Int32))), .val (.int ((u0 &&& (65535 : Int32)).toUInt32.toUInt16.toUInt32.toInt32)), .unset] [(.int (u0 &&& (65535 : Int32)))])) _
                  refine XS.bipush X0.here hx rfl (hb hby at_15) ?_
                  show Steps p.tables e below (s₁.setTop (mkF m 17 #[.val (.int u0), .val (.int (u0 &&& (65535 : Int32))), .val (.int ((u0 &&& (65535 : Int32)).toUInt32.toUInt16.toUInt32.toInt32)), .unset] [(.int (10 : Int32)), (.int (u0 &&& (65535 : Int32)))])) _
                  refine XS.icmpNo X0.here hx rfl (hb hby at_17) rfl (feq hc17).1 ?_
                  show Steps p.tables e below (s₁.setTop (mkF m 20 #[.val (.int u0), .val (.int (u0 &&& (65535 : Int32))), .val (.int ((u0 &&& (65535 : Int32)).toUInt32.toUInt16.toUInt32.toInt32)), .unset] [])) _
                  refine XS.iloadN X0.here hx rfl (hb hby at_20) rfl ?_
                  show Steps p.tables e below (s₁.setTop (mkF m 21 #[.val (.int u0), .val (.int (u0 &&& (65535 : Int32))), .val (.int ((u0 &&& (65535 : Int32)).toUInt32.toUInt16.toUInt32.toInt32)), .unset] [(.int (u0 &&& (65535 : Int32)))])) _
                  refine XS.bipush X0.here hx rfl (hb hby at_21) ?_
                  show Steps p.tables e below (s₁.setTop (mkF m 23 #[.val (.int u0), .val (.int (u0 &&& (65535 : Int32))), .val (.int ((u0 &&& (65535 : Int32)).toUInt32.toUInt16.toUInt32.toInt32)), .unset] [(.int (13 : Int32)), (.int (u0 &&& (65535 : Int32)))])) _
                  refine XS.icmpNo X0.here hx rfl (hb hby at_23) rfl (feq hc23).1 ?_
                  show Steps p.tables e below (s₁.setTop (mkF m 26 #[.val (.int u0), .val (.int (u0 &&& (65535 : Int32))), .val (.int ((u0 &&& (65535 : Int32)).toUInt32.toUInt16.toUInt32.toInt32)), .unset] [])) _
                  refine XS.iloadN X0.here hx rfl (hb hby at_26) rfl ?_
                  show Steps p.tables e below (s₁.setTop (mkF m 27 #[.val (.int u0), .val (.int (u0 &&& (65535 : Int32))), .val (.int ((u0 &&& (65535 : Int32)).toUInt32.toUInt16.toUInt32.toInt32)), .unset] [(.int (u0 &&& (65535 : Int32)))])) _
                  refine XS.bipush X0.here hx rfl (hb hby at_27) ?_
                  show Steps p.tables e below (s₁.setTop (mkF m 29 #[.val (.int u0), .val (.int (u0 &&& (65535 : Int32))), .val (.int ((u0 &&& (65535 : Int32)).toUInt32.toUInt16.toUInt32.toInt32)), .unset] [(.int (32 : Int32)), (.int (u0 &&& (65535 : Int32)))])) _
                  refine XS.icmpNo X0.here hx rfl (hb hby at_29) rfl (flt hc29).1 ?_
                  show Steps p.tables e below (s₁.setTop (mkF m 32 #[.val (.int u0), .val (.int (u0 &&& (65535 : Int32))), .val (.int ((u0 &&& (65535 : Int32)).toUInt32.toUInt16.toUInt32.toInt32)), .unset] [])) _
                  refine XS.iloadN X0.here hx rfl (hb hby at_32) rfl ?_
                  show Steps p.tables e below (s₁.setTop (mkF m 33 #[.val (.int u0), .val (.int (u0 &&& (65535 : Int32))), .val (.int ((u0 &&& (65535 : Int32)).toUInt32.toUInt16.toUInt32.toInt32)), .unset] [(.int (u0 &&& (65535 : Int32)))])) _
                  refine st10 _ ?_
                  show Steps p.tables e below (s₁.setTop (mkF m 35 #[.val (.int u0), .val (.int (u0 &&& (65535 : Int32))), .val (.int ((u0 &&& (65535 : Int32)).toUInt32.toUInt16.toUInt32.toInt32)), .unset] [(.int (55295 : Int32)), (.int (u0 &&& (65535 : Int32)))])) _
                  refine XS.icmpNo X0.here hx rfl (hb hby at_35) rfl (tlt hc35).2.2.2 ?_
                  show Steps p.tables e below (s₁.setTop (mkF m 38 #[.val (.int u0), .val (.int (u0 &&& (65535 : Int32))), .val (.int ((u0 &&& (65535 : Int32)).toUInt32.toUInt16.toUInt32.toInt32)), .unset] [])) _
                  refine XS.iloadN X0.here hx rfl (hb hby at_38) rfl ?_
                  show Steps p.tables e below (s₁.setTop (mkF m 39 #[.val (.int u0), .val (.int (u0 &&& (65535 : Int32))), .val (.int ((u0 &&& (65535 : Int32)).toUInt32.toUInt16.toUInt32.toInt32)), .unset] [(.int (u0 &&& (65535 : Int32)))])) _
                  refine st11 _ ?_
                  show Steps p.tables e below (s₁.setTop (mkF m 41 #[.val (.int u0), .val (.int (u0 &&& (65535 : Int32))), .val (.int ((u0 &&& (65535 : Int32)).toUInt32.toUInt16.toUInt32.toInt32)), .unset] [(.int (57344 : Int32)), (.int (u0 &&& (65535 : Int32)))])) _
                  refine XS.icmpNo X0.here hx rfl (hb hby at_41) rfl (flt hc41).1 ?_
                  show Steps p.tables e below (s₁.setTop (mkF m 44 #[.val (.int u0), .val (.int (u0 &&& (65535 : Int32))), .val (.int ((u0 &&& (65535 : Int32)).toUInt32.toUInt16.toUInt32.toInt32)), .unset] [])) _
                  refine XS.iloadN X0.here hx rfl (hb hby at_44) rfl ?_
                  show Steps p.tables e below (s₁.setTop (mkF m 45 #[.val (.int u0), .val (.int (u0 &&& (65535 : Int32))), .val (.int ((u0 &&& (65535 : Int32)).toUInt32.toUInt16.toUInt32.toInt32)), .unset] [(.int (u0 &&& (65535 : Int32)))])) _
                  refine st13 _ ?_
                  show Steps p.tables e below (s₁.setTop (mkF m 47 #[.val (.int u0), .val (.int (u0 &&& (65535 : Int32))), .val (.int ((u0 &&& (65535 : Int32)).toUInt32.toUInt16.toUInt32.toInt32)), .unset] [(.int (65533 : Int32)), (.int (u0 &&& (65535 : Int32)))])) _
                  refine XS.icmpYes X0.here hx rfl (pc0 := 47) (pc' := 54) rfl (hb hby at_47) rfl (tlt hc47).2.2.1 (by decide) (by decide) ?_
                  show Steps p.tables e below (s₁.setTop (mkF m 54 #[.val (.int u0), .val (.int (u0 &&& (65535 : Int32))), .val (.int ((u0 &&& (65535 : Int32)).toUInt32.toUInt16.toUInt32.toInt32)), .unset] [])) _
                  refine XS.iconst X0.here hx rfl (hb hby at_54) ?_
                  show Steps p.tables e below (s₁.setTop (mkF m 55 #[.val (.int u0), .val (.int (u0 &&& (65535 : Int32))), .val (.int ((u0 &&& (65535 : Int32)).toUInt32.toUInt16.toUInt32.toInt32)), .unset] [(.int (0 : Int32))])) _
                  refine XS.istoreN X0.here hx rfl (hb hby at_55) rfl (l' := #[.val (.int u0), .val (.int (u0 &&& (65535 : Int32))), .val (.int ((u0 &&& (65535 : Int32)).toUInt32.toUInt16.toUInt32.toInt32)), .val (.int (0 : Int32))]) rfl ?_
                  show Steps p.tables e below (s₁.setTop (mkF m 56 #[.val (.int u0), .val (.int (u0 &&& (65535 : Int32))), .val (.int ((u0 &&& (65535 : Int32)).toUInt32.toUInt16.toUInt32.toInt32)), .val (.int (0 : Int32))] [])) _
                  refine XS.iloadN X0.here hx rfl (hb hby at_56) rfl ?_
                  show Steps p.tables e below (s₁.setTop (mkF m 57 #[.val (.int u0), .val (.int (u0 &&& (65535 : Int32))), .val (.int ((u0 &&& (65535 : Int32)).toUInt32.toUInt16.toUInt32.toInt32)), .val (.int (0 : Int32))] [(.int ((u0 &&& (65535 : Int32)).toUInt32.toUInt16.toUInt32.toInt32))])) _
                  refine st14 _ ?_
                  show Steps p.tables e below (T14.setTop (mkF m 60 #[.val (.int u0), .val (.int (u0 &&& (65535 : Int32))), .val (.int ((u0 &&& (65535 : Int32)).toUInt32.toUInt16.toUInt32.toInt32)), .val (.int (0 : Int32))] [(.int (isAl ((u0 &&& (65535 : Int32)).toUInt32.toUInt16.toUInt32.toInt32)))])) _
                  refine XS.iloadN X14.here hx rfl (hb hby at_60) rfl ?_
                  show Steps p.tables e below (T14.setTop (mkF m 61 #[.val (.int u0), .val (.int (u0 &&& (65535 : Int32))), .val (.int ((u0 &&& (65535 : Int32)).toUInt32.toUInt16.toUInt32.toInt32)), .val (.int (0 : Int32))] [(.int (0 : Int32)), (.int (isAl ((u0 &&& (65535 : Int32)).toUInt32.toUInt16.toUInt32.toInt32)))])) _
                  refine XS.icmpNo X14.here hx rfl (hb hby at_61) rfl (teq hb61).2 ?_
                  show Steps p.tables e below (T14.setTop (mkF m 64 #[.val (.int u0), .val (.int (u0 &&& (65535 : Int32))), .val (.int ((u0 &&& (65535 : Int32)).toUInt32.toUInt16.toUInt32.toInt32)), .val (.int (0 : Int32))] [])) _
                  refine XS.iconst X14.here hx rfl (hb hby at_64) ?_
                  show Steps p.tables e below (T14.setTop (mkF m 65 #[.val (.int u0), .val (.int (u0 &&& (65535 : Int32))), .val (.int ((u0 &&& (65535 : Int32)).toUInt32.toUInt16.toUInt32.toInt32)), .val (.int (0 : Int32))] [(.int (1 : Int32))])) _
                  refine XS.goto X14.here hx rfl (pc0 := 65) (pc' := 69) rfl (hb hby at_65) (by decide) (by decide) ?_
                  show Steps p.tables e below (T14.setTop (mkF m 69 #[.val (.int u0), .val (.int (u0 &&& (65535 : Int32))), .val (.int ((u0 &&& (65535 : Int32)).toUInt32.toUInt16.toUInt32.toInt32)), .val (.int (0 : Int32))] [(.int (1 : Int32))])) _
                  exact retN X14 hx (t := .boolean) Bd.returns (by simp) (hb hby at_69) hr
                · show Q0 Z u0 h0 n0 _ T14.heap _
                  rw [e14]
                  exact ⟨rfl, N14⟩
              · obtain ⟨_, _, ⟨T15, L15, k15, n15⟩, -, X15, ⟨Lc15, hQ15, l15, y15, z15⟩, st15⟩ := Jvm.LawKit.callS X0 hx (y := (⟨"com/example/rehydra/rehydra/XmlText", "isAllowedAlone", "(C)Z"⟩ : MethodName)) hown (mvT hZ (hw _ (List.mem_of_getElem? (i := 2) rfl))) (mvT hZ (hw _ (List.mem_of_getElem? (i := 3) rfl))) (mvT hZ (hw _ (List.mem_of_getElem? (i := 4) rfl))) (mvT hZ (hw _ (List.mem_of_getElem? (i := 5) rfl))) (by decide) (backOf (W := 0) (rm1 l Z a0 hw [] ((u0 &&& (65535 : Int32)).toUInt32.toUInt16.toUInt32.toInt32) h0 n0 Z0 ) hZ (hw _ (List.mem_of_getElem? (i := 5) rfl)) (hw _ (List.mem_of_getElem? (i := 4) rfl)) (by decide) (by decide)) (g := (mkF m 57 #[.val (.int u0), .val (.int (u0 &&& (65535 : Int32))), .val (.int ((u0 &&& (65535 : Int32)).toUInt32.toUInt16.toUInt32.toInt32)), .val (.int (1 : Int32))] [(.int ((u0 &&& (65535 : Int32)).toUInt32.toUInt16.toUInt32.toInt32))])) rfl (by rw [hml]; rfl) (argsL := [(.int ((u0 &&& (65535 : Int32)).toUInt32.toUInt16.toUInt32.toInt32))]) (rest := []) (lenOf pd_0 rfl) rfl (by show 2 * 0 + _ ≤ _; exact Nat.le_of_eq rfl) (hb hby at_57) (fun _ _ => ⟨rfl, e0, (by decide : 0 + 0 ≤ _), (by decide : 0 + 0 ≤ _)⟩)
                dsimp only [Pt.U, Pt.locs, Pt.cells, Pt.slots] at X15 l15 y15 z15 st15 hQ15
                subst l15 y15 z15
                obtain ⟨rfl, N15q, e15⟩ := hQ15
                have N15 := Fr.app N0 N15q
                have hb61 : (isAl ((u0 &&& (65535 : Int32)).toUInt32.toUInt16.toUInt32.toInt32)) = (1 : Int32) := by
                  rw [own_eq (k := 9) (by decide)] at hc11
                  rw [own_eq (k := 10) (by decide)] at hc17
                  rw [own_eq (k := 13) (by decide)] at hc23
                  rw [own_lt (k := 32) (by decide)] at hc29
                  rw [own_gt (k := 55295) (by decide)] at hc35
                  rw [own_lt (k := 57344) (by decide)] at hc41
                  rw [own_gt (k := 65533) (by decide)] at hc47
                  obtain ⟨q0, q1⟩ := own_code u0
                  have q2 := own_i2c _ q0 q1
                  unfold isAl
                  exact if_pos (by rw [q2]; omega)
                obtain ⟨fs, hr, hrun, hended, hW, hsame⟩ := X15.leave (v := some (.int (1 : Int32))) (fun h => by rw [Bd.returns] at h; cases h)
                refine ⟨_, _, pre0 _ ?_, hrun, hended, _, _, rfl, ?_, ⟨_, rfl⟩, hW, hsame.mono (by decide) (by decide)⟩
                · show Steps p.tables e below (s₁.setTop (mkF m 0 #[.val (.int u0), .unset, .unset, .unset] [])) _
                  refine XS.iloadN X0.here hx rfl (hb hby at_0) rfl ?_
                  show Steps p.tables e below (s₁.setTop (mkF m 1 #[.val (.int u0), .unset, .unset, .unset] [(.int u0)])) _
                  refine st1 _ ?_
                  show Steps p.tables e below (s₁.setTop (mkF m 3 #[.val (.int u0), .unset, .unset, .unset] [(.int (65535 : Int32)), (.int u0)])) _
                  refine XS.iand X0.here hx rfl (hb hby at_3) rfl ?_
                  show Steps p.tables e below (s₁.setTop (mkF m 4 #[.val (.int u0), .unset, .unset, .unset] [(.int (u0 &&& (65535 : Int32)))])) _
                  refine XS.istoreN X0.here hx rfl (hb hby at_4) rfl (l' := #[.val (.int u0), .val (.int (u0 &&& (65535 : Int32))), .unset, .unset]) rfl ?_
                  show Steps p.tables e below (s₁.setTop (mkF m 5 #[.val (.int u0), .val (.int (u0 &&& (65535 : Int32))), .unset, .unset] [])) _
                  refine XS.iloadN X0.here hx rfl (hb hby at_5) rfl ?_
                  show Steps p.tables e below (s₁.setTop (mkF m 6 #[.val (.int u0), .val (.int (u0 &&& (65535 : Int32))), .unset, .unset] [(.int (u0 &&& (65535 : Int32)))])) _
                  refine XS.i2c X0.here hx rfl (hb hby at_6) rfl ?_
                  show Steps p.tables e below (s₁.setTop (mkF m 7 #[.val (.int u0), .val (.int (u0 &&& (65535 : Int32))), .unset, .unset] [(.int ((u0 &&& (65535 : Int32)).toUInt32.toUInt16.toUInt32.toInt32))])) _
                  refine XS.istoreN X0.here hx rfl (hb hby at_7) rfl (l' := #[.val (.int u0), .val (.int (u0 &&& (65535 : Int32))), .val (.int ((u0 &&& (65535 : Int32)).toUInt32.toUInt16.toUInt32.toInt32)), .unset]) rfl ?_
                  show Steps p.tables e below (s₁.setTop (mkF m 8 #[.val (.int u0), .val (.int (u0 &&& (65535 : Int32))), .val (.int ((u0 &&& (65535 : Int32)).toUInt32.toUInt16.toUInt32.toInt32)), .unset] [])) _
                  refine XS.iloadN X0.here hx rfl (hb hby at_8) rfl ?_
                  show Steps p.tables e below (s₁.setTop (mkF m 9 #[.val (.int u0), .val (.int (u0 &&& (65535 : Int32))), .val (.int ((u0 &&& (65535 : Int32)).toUInt32.toUInt16.toUInt32.toInt32)), .unset] [(.int (u0 &&& (65535 : Int32)))])) _
                  refine XS.bipush X0.here hx rfl (hb hby at_9) ?_
                  show Steps p.tables e below (s₁.setTop (mkF m 11 #[.val (.int u0), .val (.int (u0 &&& (65535 : Int32))), .val (.int ((u0 &&& (65535 : Int32)).toUInt32.toUInt16.toUInt32.toInt32)), .unset] [(.int (9 : Int32)), (.int (u0 &&& (65535 : Int32)))])) _
                  refine XS.icmpNo X0.here hx rfl (hb hby at_11) rfl (feq hc11).1 ?_
                  show Steps p.tables e below (s₁.setTop (mkF m 14 #[.val (.int u0), .val (.int (u0 &&& (65535 : Int32))), .val (.int ((u0 &&& (65535 : Int32)).toUInt32.toUInt16.toUInt32.toInt32)), .unset] [])) _
                  refine XS.iloadN X0.here hx rfl (hb hby at_14) rfl ?_
                  show Steps p.tables e below (s₁.setTop (mkF m 15 #[.val (.int u0), .val (.int (u0 &&& (65535 : Int32))), .val (.int ((u0 &&& (65535 : Int32)).toUInt32.toUInt16.toUInt32.toInt32)), .unset] [(.int (u0 &&& (65535 : Int32)))])) _
                  refine XS.bipush X0.here hx rfl (hb hby at_15) ?_
                  show Steps p.tables e below (s₁.setTop (mkF m 17 #[.val (.int u0), .val (.int (u0 &&& (65535 : Int32))), .val (.int ((u0 &&& (65535 : Int32)).toUInt32.toUInt16.toUInt32.toInt32)), .unset] [(.int (10 : Int32)), (.int (u0 &&& (65535 : Int32)))])) _
                  refine XS.icmpNo X0.here hx rfl (hb hby at_17) rfl (feq hc17).1 ?_
                  show Steps p.tables e below (s₁.setTop (mkF m 20 #[.val (.int u0), .val (.int (u0 &&& (65535 : Int32))), .val (.int ((u0 &&& (65535 : Int32)).toUInt32.toUInt16.toUInt32.toInt32)), .unset] [])) _
                  refine XS.iloadN X0.here hx rfl (hb hby at_20) rfl ?_
                  show Steps p.tables e below (s₁.setTop (mkF m 21 #[.val (.int u0), .val (.int (u0 &&& (65535 : Int32))), .val (.int ((u0 &&& (65535 : Int32)).toUInt32.toUInt16.toUInt32.toInt32)), .unset] [(.int (u0 &&& (65535 : Int32)))])) _
                  refine XS.bipush X0.here hx rfl (hb hby at_21) ?_
                  show Steps p.tables e below (s₁.setTop (mkF m 23 #[.val (.int u0), .val (.int (u0 &&& (65535 : Int32))), .val (.int ((u0 &&& (65535 : Int32)).toUInt32.toUInt16.toUInt32.toInt32)), .unset] [(.int (13 : Int32)), (.int (u0 &&& (65535 : Int32)))])) _
                  refine XS.icmpNo X0.here hx rfl (hb hby at_23) rfl (feq hc23).1 ?_
                  show Steps p.tables e below (s₁.setTop (mkF m 26 #[.val (.int u0), .val (.int (u0 &&& (65535 : Int32))), .val (.int ((u0 &&& (65535 : Int32)).toUInt32.toUInt16.toUInt32.toInt32)), .unset] [])) _
                  refine XS.iloadN X0.here hx rfl (hb hby at_26) rfl ?_
                  show Steps p.tables e below (s₁.setTop (mkF m 27 #[.val (.int u0), .val (.int (u0 &&& (65535 : Int32))), .val (.int ((u0 &&& (65535 : Int32)).toUInt32.toUInt16.toUInt32.toInt32)), .unset] [(.int (u0 &&& (65535 : Int32)))])) _
                  refine XS.bipush X0.here hx rfl (hb hby at_27) ?_
                  show Steps p.tables e below (s₁.setTop (mkF m 29 #[.val (.int u0), .val (.int (u0 &&& (65535 : Int32))), .val (.int ((u0 &&& (65535 : Int32)).toUInt32.toUInt16.toUInt32.toInt32)), .unset] [(.int (32 : Int32)), (.int (u0 &&& (65535 : Int32)))])) _
                  refine XS.icmpNo X0.here hx rfl (hb hby at_29) rfl (flt hc29).1 ?_
                  show Steps p.tables e below (s₁.setTop (mkF m 32 #[.val (.int u0), .val (.int (u0 &&& (65535 : Int32))), .val (.int ((u0 &&& (65535 : Int32)).toUInt32.toUInt16.toUInt32.toInt32)), .unset] [])) _
                  refine XS.iloadN X0.here hx rfl (hb hby at_32) rfl ?_
                  show Steps p.tables e below (s₁.setTop (mkF m 33 #[.val (.int u0), .val (.int (u0 &&& (65535 : Int32))), .val (.int ((u0 &&& (65535 : Int32)).toUInt32.toUInt16.toUInt32.toInt32)), .unset] [(.int (u0 &&& (65535 : Int32)))])) _
                  refine st10 _ ?_
                  show Steps p.tables e below (s₁.setTop (mkF m 35 #[.val (.int u0), .val (.int (u0 &&& (65535 : Int32))), .val (.int ((u0 &&& (65535 : Int32)).toUInt32.toUInt16.toUInt32.toInt32)), .unset] [(.int (55295 : Int32)), (.int (u0 &&& (65535 : Int32)))])) _
                  refine XS.icmpNo X0.here hx rfl (hb hby at_35) rfl (tlt hc35).2.2.2 ?_
                  show Steps p.tables e below (s₁.setTop (mkF m 38 #[.val (.int u0), .val (.int (u0 &&& (65535 : Int32))), .val (.int ((u0 &&& (65535 : Int32)).toUInt32.toUInt16.toUInt32.toInt32)), .unset] [])) _
                  refine XS.iloadN X0.here hx rfl (hb hby at_38) rfl ?_
                  show Steps p.tables e below (s₁.setTop (mkF m 39 #[.val (.int u0), .val (.int (u0 &&& (65535 : Int32))), .val (.int ((u0 &&& (65535 : Int32)).toUInt32.toUInt16.toUInt32.toInt32)), .unset] [(.int (u0 &&& (65535 : Int32)))])) _
                  refine st11 _ ?_
                  show Steps p.tables e below (s₁.setTop (mkF m 41 #[.val (.int u0), .val (.int (u0 &&& (65535 : Int32))), .val (.int ((u0 &&& (65535 : Int32)).toUInt32.toUInt16.toUInt32.toInt32)), .unset] [(.int (57344 : Int32)), (.int (u0 &&& (65535 : Int32)))])) _
                  refine XS.icmpNo X0.here hx rfl (hb hby at_41) rfl (flt hc41).1 ?_
                  show Steps p.tables e below (s₁.setTop (mkF m 44 #[.val (.int u0), .val (.int (u0 &&& (65535 : Int32))), .val (.int ((u0 &&& (65535 : Int32)).toUInt32.toUInt16.toUInt32.toInt32)), .unset] [])) _
                  refine XS.iloadN X0.here hx rfl (hb hby at_44) rfl ?_
                  show Steps p.tables e below (s₁.setTop (mkF m 45 #[.val (.int u0), .val (.int (u0 &&& (65535 : Int32))), .val (.int ((u0 &&& (65535 : Int32)).toUInt32.toUInt16.toUInt32.toInt32)), .unset] [(.int (u0 &&& (65535 : Int32)))])) _
                  refine st13 _ ?_
                  show Steps p.tables e below (s₁.setTop (mkF m 47 #[.val (.int u0), .val (.int (u0 &&& (65535 : Int32))), .val (.int ((u0 &&& (65535 : Int32)).toUInt32.toUInt16.toUInt32.toInt32)), .unset] [(.int (65533 : Int32)), (.int (u0 &&& (65535 : Int32)))])) _
                  refine XS.icmpNo X0.here hx rfl (hb hby at_47) rfl (flt hc47).2.2.1 ?_
                  show Steps p.tables e below (s₁.setTop (mkF m 50 #[.val (.int u0), .val (.int (u0 &&& (65535 : Int32))), .val (.int ((u0 &&& (65535 : Int32)).toUInt32.toUInt16.toUInt32.toInt32)), .unset] [])) _
                  refine XS.iconst X0.here hx rfl (hb hby at_50) ?_
                  show Steps p.tables e below (s₁.setTop (mkF m 51 #[.val (.int u0), .val (.int (u0 &&& (65535 : Int32))), .val (.int ((u0 &&& (65535 : Int32)).toUInt32.toUInt16.toUInt32.toInt32)), .unset] [(.int (1 : Int32))])) _
                  refine XS.goto X0.here hx rfl (pc0 := 51) (pc' := 55) rfl (hb hby at_51) (by decide) (by decide) ?_
                  show Steps p.tables e below (s₁.setTop (mkF m 55 #[.val (.int u0), .val (.int (u0 &&& (65535 : Int32))), .val (.int ((u0 &&& (65535 : Int32)).toUInt32.toUInt16.toUInt32.toInt32)), .unset] [(.int (1 : Int32))])) _
                  refine XS.istoreN X0.here hx rfl (hb hby at_55) rfl (l' := #[.val (.int u0), .val (.int (u0 &&& (65535 : Int32))), .val (.int ((u0 &&& (65535 : Int32)).toUInt32.toUInt16.toUInt32.toInt32)), .val (.int (1 : Int32))]) rfl ?_
                  show Steps p.tables e below (s₁.setTop (mkF m 56 #[.val (.int u0), .val (.int (u0 &&& (65535 : Int32))), .val (.int ((u0 &&& (65535 : Int32)).toUInt32.toUInt16.toUInt32.toInt32)), .val (.int (1 : Int32))] [])) _
                  refine XS.iloadN X0.here hx rfl (hb hby at_56) rfl ?_
                  show Steps p.tables e below (s₁.setTop (mkF m 57 #[.val (.int u0), .val (.int (u0 &&& (65535 : Int32))), .val (.int ((u0 &&& (65535 : Int32)).toUInt32.toUInt16.toUInt32.toInt32)), .val (.int (1 : Int32))] [(.int ((u0 &&& (65535 : Int32)).toUInt32.toUInt16.toUInt32.toInt32))])) _
                  refine st15 _ ?_
                  show Steps p.tables e below (T15.setTop (mkF m 60 #[.val (.int u0), .val (.int (u0 &&& (65535 : Int32))), .val (.int ((u0 &&& (65535 : Int32)).toUInt32.toUInt16.toUInt32.toInt32)), .val (.int (1 : Int32))] [(.int (isAl ((u0 &&& (65535 : Int32)).toUInt32.toUInt16.toUInt32.toInt32)))])) _
                  refine XS.iloadN X15.here hx rfl (hb hby at_60) rfl ?_
                  show Steps p.tables e below (T15.setTop (mkF m 61 #[.val (.int u0), .val (.int (u0 &&& (65535 : Int32))), .val (.int ((u0 &&& (65535 : Int32)).toUInt32.toUInt16.toUInt32.toInt32)), .val (.int (1 : Int32))] [(.int (1 : Int32)), (.int (isAl ((u0 &&& (65535 : Int32)).toUInt32.toUInt16.toUInt32.toInt32)))])) _
                  refine XS.icmpNo X15.here hx rfl (hb hby at_61) rfl (teq hb61).2 ?_
                  show Steps p.tables e below (T15.setTop (mkF m 64 #[.val (.int u0), .val (.int (u0 &&& (65535 : Int32))), .val (.int ((u0 &&& (65535 : Int32)).toUInt32.toUInt16.toUInt32.toInt32)), .val (.int (1 : Int32))] [])) _
                  refine XS.iconst X15.here hx rfl (hb hby at_64) ?_
                  show Steps p.tables e below (T15.setTop (mkF m 65 #[.val (.int u0), .val (.int (u0 &&& (65535 : Int32))), .val (.int ((u0 &&& (65535 : Int32)).toUInt32.toUInt16.toUInt32.toInt32)), .val (.int (1 : Int32))] [(.int (1 : Int32))])) _
                  refine XS.goto X15.here hx rfl (pc0 := 65) (pc' := 69) rfl (hb hby at_65) (by decide) (by decide) ?_
                  show Steps p.tables e below (T15.setTop (mkF m 69 #[.val (.int u0), .val (.int (u0 &&& (65535 : Int32))), .val (.int ((u0 &&& (65535 : Int32)).toUInt32.toUInt16.toUInt32.toInt32)), .val (.int (1 : Int32))] [(.int (1 : Int32))])) _
                  exact retN X15 hx (t := .boolean) Bd.returns (by simp) (hb hby at_69) hr
                · show Q0 Z u0 h0 n0 _ T15.heap _
                  rw [e15]
                  exact ⟨rfl, N15⟩
          · obtain ⟨_, _, ⟨T16, L16, k16, n16⟩, -, X16, ⟨Lc16, hQ16, l16, y16, z16⟩, st16⟩ := Jvm.LawKit.callS X0 hx (y := (⟨"com/example/rehydra/rehydra/XmlText", "isAllowedAlone", "(C)Z"⟩ : MethodName)) hown (mvT hZ (hw _ (List.mem_of_getElem? (i := 2) rfl))) (mvT hZ (hw _ (List.mem_of_getElem? (i := 3) rfl))) (mvT hZ (hw _ (List.mem_of_getElem? (i := 4) rfl))) (mvT hZ (hw _ (List.mem_of_getElem? (i := 5) rfl))) (by decide) (backOf (W := 0) (rm1 l Z a0 hw [] ((u0 &&& (65535 : Int32)).toUInt32.toUInt16.toUInt32.toInt32) h0 n0 Z0 ) hZ (hw _ (List.mem_of_getElem? (i := 5) rfl)) (hw _ (List.mem_of_getElem? (i := 4) rfl)) (by decide) (by decide)) (g := (mkF m 57 #[.val (.int u0), .val (.int (u0 &&& (65535 : Int32))), .val (.int ((u0 &&& (65535 : Int32)).toUInt32.toUInt16.toUInt32.toInt32)), .val (.int (1 : Int32))] [(.int ((u0 &&& (65535 : Int32)).toUInt32.toUInt16.toUInt32.toInt32))])) rfl (by rw [hml]; rfl) (argsL := [(.int ((u0 &&& (65535 : Int32)).toUInt32.toUInt16.toUInt32.toInt32))]) (rest := []) (lenOf pd_0 rfl) rfl (by show 2 * 0 + _ ≤ _; exact Nat.le_of_eq rfl) (hb hby at_57) (fun _ _ => ⟨rfl, e0, (by decide : 0 + 0 ≤ _), (by decide : 0 + 0 ≤ _)⟩)
            dsimp only [Pt.U, Pt.locs, Pt.cells, Pt.slots] at X16 l16 y16 z16 st16 hQ16
            subst l16 y16 z16
            obtain ⟨rfl, N16q, e16⟩ := hQ16
            have N16 := Fr.app N0 N16q
            have hb61 : (isAl ((u0 &&& (65535 : Int32)).toUInt32.toUInt16.toUInt32.toInt32)) = (1 : Int32) := by
              rw [own_eq (k := 9) (by decide)] at hc11
              rw [own_eq (k := 10) (by decide)] at hc17
              rw [own_eq (k := 13) (by decide)] at hc23
              rw [own_lt (k := 32) (by decide)] at hc29
              rw [own_gt (k := 55295) (by decide)] at hc35
              obtain ⟨q0, q1⟩ := own_code u0
              have q2 := own_i2c _ q0 q1
              unfold isAl
              exact if_pos (by rw [q2]; omega)
            obtain ⟨fs, hr, hrun, hended, hW, hsame⟩ := X16.leave (v := some (.int (1 : Int32))) (fun h => by rw [Bd.returns] at h; cases h)
            refine ⟨_, _, pre0 _ ?_, hrun, hended, _, _, rfl, ?_, ⟨_, rfl⟩, hW, hsame.mono (by decide) (by decide)⟩
            · show Steps p.tables e below (s₁.setTop (mkF m 0 #[.val (.int u0), .unset, .unset, .unset] [])) _
              refine XS.iloadN X0.here hx rfl (hb hby at_0) rfl ?_
              show Steps p.tables e below (s₁.setTop (mkF m 1 #[.val (.int u0), .unset, .unset, .unset] [(.int u0)])) _
              refine st1 _ ?_
              show Steps p.tables e below (s₁.setTop (mkF m 3 #[.val (.int u0), .unset, .unset, .unset] [(.int (65535 : Int32)), (.int u0)])) _
              refine XS.iand X0.here hx rfl (hb hby at_3) rfl ?_
              show Steps p.tables e below (s₁.setTop (mkF m 4 #[.val (.int u0), .unset, .unset, .unset] [(.int (u0 &&& (65535 : Int32)))])) _
              refine XS.istoreN X0.here hx rfl (hb hby at_4) rfl (l' := #[.val (.int u0), .val (.int (u0 &&& (65535 : Int32))), .unset, .unset]) rfl ?_
              show Steps p.tables e below (s₁.setTop (mkF m 5 #[.val (.int u0), .val (.int (u0 &&& (65535 : Int32))), .unset, .unset] [])) _
              refine XS.iloadN X0.here hx rfl (hb hby at_5) rfl ?_
              show Steps p.tables e below (s₁.setTop (mkF m 6 #[.val (.int u0), .val (.int (u0 &&& (65535 : Int32))), .unset, .unset] [(.int (u0 &&& (65535 : Int32)))])) _
              refine XS.i2c X0.here hx rfl (hb hby at_6) rfl ?_
              show Steps p.tables e below (s₁.setTop (mkF m 7 #[.val (.int u0), .val (.int (u0 &&& (65535 : Int32))), .unset, .unset] [(.int ((u0 &&& (65535 : Int32)).toUInt32.toUInt16.toUInt32.toInt32))])) _
              refine XS.istoreN X0.here hx rfl (hb hby at_7) rfl (l' := #[.val (.int u0), .val (.int (u0 &&& (65535 : Int32))), .val (.int ((u0 &&& (65535 : Int32)).toUInt32.toUInt16.toUInt32.toInt32)), .unset]) rfl ?_
              show Steps p.tables e below (s₁.setTop (mkF m 8 #[.val (.int u0), .val (.int (u0 &&& (65535 : Int32))), .val (.int ((u0 &&& (65535 : Int32)).toUInt32.toUInt16.toUInt32.toInt32)), .unset] [])) _
              refine XS.iloadN X0.here hx rfl (hb hby at_8) rfl ?_
              show Steps p.tables e below (s₁.setTop (mkF m 9 #[.val (.int u0), .val (.int (u0 &&& (65535 : Int32))), .val (.int ((u0 &&& (65535 : Int32)).toUInt32.toUInt16.toUInt32.toInt32)), .unset] [(.int (u0 &&& (65535 : Int32)))])) _
              refine XS.bipush X0.here hx rfl (hb hby at_9) ?_
              show Steps p.tables e below (s₁.setTop (mkF m 11 #[.val (.int u0), .val (.int (u0 &&& (65535 : Int32))), .val (.int ((u0 &&& (65535 : Int32)).toUInt32.toUInt16.toUInt32.toInt32)), .unset] [(.int (9 : Int32)), (.int (u0 &&& (65535 : Int32)))])) _
              refine XS.icmpNo X0.here hx rfl (hb hby at_11) rfl (feq hc11).1 ?_
              show Steps p.tables e below (s₁.setTop (mkF m 14 #[.val (.int u0), .val (.int (u0 &&& (65535 : Int32))), .val (.int ((u0 &&& (65535 : Int32)).toUInt32.toUInt16.toUInt32.toInt32)), .unset] [])) _
              refine XS.iloadN X0.here hx rfl (hb hby at_14) rfl ?_
              show Steps p.tables e below (s₁.setTop (mkF m 15 #[.val (.int u0), .val (.int (u0 &&& (65535 : Int32))), .val (.int ((u0 &&& (65535 : Int32)).toUInt32.toUInt16.toUInt32.toInt32)), .unset] [(.int (u0 &&& (65535 : Int32)))])) _
              refine XS.bipush X0.here hx rfl (hb hby at_15) ?_
              show Steps p.tables e below (s₁.setTop (mkF m 17 #[.val (.int u0), .val (.int (u0 &&& (65535 : Int32))), .val (.int ((u0 &&& (65535 : Int32)).toUInt32.toUInt16.toUInt32.toInt32)), .unset] [(.int (10 : Int32)), (.int (u0 &&& (65535 : Int32)))])) _
              refine XS.icmpNo X0.here hx rfl (hb hby at_17) rfl (feq hc17).1 ?_
              show Steps p.tables e below (s₁.setTop (mkF m 20 #[.val (.int u0), .val (.int (u0 &&& (65535 : Int32))), .val (.int ((u0 &&& (65535 : Int32)).toUInt32.toUInt16.toUInt32.toInt32)), .unset] [])) _
              refine XS.iloadN X0.here hx rfl (hb hby at_20) rfl ?_
              show Steps p.tables e below (s₁.setTop (mkF m 21 #[.val (.int u0), .val (.int (u0 &&& (65535 : Int32))), .val (.int ((u0 &&& (65535 : Int32)).toUInt32.toUInt16.toUInt32.toInt32)), .unset] [(.int (u0 &&& (65535 : Int32)))])) _
              refine XS.bipush X0.here hx rfl (hb hby at_21) ?_
              show Steps p.tables e below (s₁.setTop (mkF m 23 #[.val (.int u0), .val (.int (u0 &&& (65535 : Int32))), .val (.int ((u0 &&& (65535 : Int32)).toUInt32.toUInt16.toUInt32.toInt32)), .unset] [(.int (13 : Int32)), (.int (u0 &&& (65535 : Int32)))])) _
              refine XS.icmpNo X0.here hx rfl (hb hby at_23) rfl (feq hc23).1 ?_
              show Steps p.tables e below (s₁.setTop (mkF m 26 #[.val (.int u0), .val (.int (u0 &&& (65535 : Int32))), .val (.int ((u0 &&& (65535 : Int32)).toUInt32.toUInt16.toUInt32.toInt32)), .unset] [])) _
              refine XS.iloadN X0.here hx rfl (hb hby at_26) rfl ?_
              show Steps p.tables e below (s₁.setTop (mkF m 27 #[.val (.int u0), .val (.int (u0 &&& (65535 : Int32))), .val (.int ((u0 &&& (65535 : Int32)).toUInt32.toUInt16.toUInt32.toInt32)), .unset] [(.int (u0 &&& (65535 : Int32)))])) _
              refine XS.bipush X0.here hx rfl (hb hby at_27) ?_
              show Steps p.tables e below (s₁.setTop (mkF m 29 #[.val (.int u0), .val (.int (u0 &&& (65535 : Int32))), .val (.int ((u0 &&& (65535 : Int32)).toUInt32.toUInt16.toUInt32.toInt32)), .unset] [(.int (32 : Int32)), (.int (u0 &&& (65535 : Int32)))])) _
              refine XS.icmpNo X0.here hx rfl (hb hby at_29) rfl (flt hc29).1 ?_
              show Steps p.tables e below (s₁.setTop (mkF m 32 #[.val (.int u0), .val (.int (u0 &&& (65535 : Int32))), .val (.int ((u0 &&& (65535 : Int32)).toUInt32.toUInt16.toUInt32.toInt32)), .unset] [])) _
              refine XS.iloadN X0.here hx rfl (hb hby at_32) rfl ?_
              show Steps p.tables e below (s₁.setTop (mkF m 33 #[.val (.int u0), .val (.int (u0 &&& (65535 : Int32))), .val (.int ((u0 &&& (65535 : Int32)).toUInt32.toUInt16.toUInt32.toInt32)), .unset] [(.int (u0 &&& (65535 : Int32)))])) _
              refine st10 _ ?_
              show Steps p.tables e below (s₁.setTop (mkF m 35 #[.val (.int u0), .val (.int (u0 &&& (65535 : Int32))), .val (.int ((u0 &&& (65535 : Int32)).toUInt32.toUInt16.toUInt32.toInt32)), .unset] [(.int (55295 : Int32)), (.int (u0 &&& (65535 : Int32)))])) _
              refine XS.icmpYes X0.here hx rfl (pc0 := 35) (pc' := 50) rfl (hb hby at_35) rfl (flt hc35).2.2.2 (by decide) (by decide) ?_
              show Steps p.tables e below (s₁.setTop (mkF m 50 #[.val (.int u0), .val (.int (u0 &&& (65535 : Int32))), .val (.int ((u0 &&& (65535 : Int32)).toUInt32.toUInt16.toUInt32.toInt32)), .unset] [])) _
              refine XS.iconst X0.here hx rfl (hb hby at_50) ?_
              show Steps p.tables e below (s₁.setTop (mkF m 51 #[.val (.int u0), .val (.int (u0 &&& (65535 : Int32))), .val (.int ((u0 &&& (65535 : Int32)).toUInt32.toUInt16.toUInt32.toInt32)), .unset] [(.int (1 : Int32))])) _
              refine XS.goto X0.here hx rfl (pc0 := 51) (pc' := 55) rfl (hb hby at_51) (by decide) (by decide) ?_
              show Steps p.tables e below (s₁.setTop (mkF m 55 #[.val (.int u0), .val (.int (u0 &&& (65535 : Int32))), .val (.int ((u0 &&& (65535 : Int32)).toUInt32.toUInt16.toUInt32.toInt32)), .unset] [(.int (1 : Int32))])) _
              refine XS.istoreN X0.here hx rfl (hb hby at_55) rfl (l' := #[.val (.int u0), .val (.int (u0 &&& (65535 : Int32))), .val (.int ((u0 &&& (65535 : Int32)).toUInt32.toUInt16.toUInt32.toInt32)), .val (.int (1 : Int32))]) rfl ?_
              show Steps p.tables e below (s₁.setTop (mkF m 56 #[.val (.int u0), .val (.int (u0 &&& (65535 : Int32))), .val (.int ((u0 &&& (65535 : Int32)).toUInt32.toUInt16.toUInt32.toInt32)), .val (.int (1 : Int32))] [])) _
              refine XS.iloadN X0.here hx rfl (hb hby at_56) rfl ?_
              show Steps p.tables e below (s₁.setTop (mkF m 57 #[.val (.int u0), .val (.int (u0 &&& (65535 : Int32))), .val (.int ((u0 &&& (65535 : Int32)).toUInt32.toUInt16.toUInt32.toInt32)), .val (.int (1 : Int32))] [(.int ((u0 &&& (65535 : Int32)).toUInt32.toUInt16.toUInt32.toInt32))])) _
              refine st16 _ ?_
              show Steps p.tables e below (T16.setTop (mkF m 60 #[.val (.int u0), .val (.int (u0 &&& (65535 : Int32))), .val (.int ((u0 &&& (65535 : Int32)).toUInt32.toUInt16.toUInt32.toInt32)), .val (.int (1 : Int32))] [(.int (isAl ((u0 &&& (65535 : Int32)).toUInt32.toUInt16.toUInt32.toInt32)))])) _
              refine XS.iloadN X16.here hx rfl (hb hby at_60) rfl ?_
              show Steps p.tables e below (T16.setTop (mkF m 61 #[.val (.int u0), .val (.int (u0 &&& (65535 : Int32))), .val (.int ((u0 &&& (65535 : Int32)).toUInt32.toUInt16.toUInt32.toInt32)), .val (.int (1 : Int32))] [(.int (1 : Int32)), (.int (isAl ((u0 &&& (65535 : Int32)).toUInt32.toUInt16.toUInt32.toInt32)))])) _
              refine XS.icmpNo X16.here hx rfl (hb hby at_61) rfl (teq hb61).2 ?_
              show Steps p.tables e below (T16.setTop (mkF m 64 #[.val (.int u0), .val (.int (u0 &&& (65535 : Int32))), .val (.int ((u0 &&& (65535 : Int32)).toUInt32.toUInt16.toUInt32.toInt32)), .val (.int (1 : Int32))] [])) _
              refine XS.iconst X16.here hx rfl (hb hby at_64) ?_
              show Steps p.tables e below (T16.setTop (mkF m 65 #[.val (.int u0), .val (.int (u0 &&& (65535 : Int32))), .val (.int ((u0 &&& (65535 : Int32)).toUInt32.toUInt16.toUInt32.toInt32)), .val (.int (1 : Int32))] [(.int (1 : Int32))])) _
              refine XS.goto X16.here hx rfl (pc0 := 65) (pc' := 69) rfl (hb hby at_65) (by decide) (by decide) ?_
              show Steps p.tables e below (T16.setTop (mkF m 69 #[.val (.int u0), .val (.int (u0 &&& (65535 : Int32))), .val (.int ((u0 &&& (65535 : Int32)).toUInt32.toUInt16.toUInt32.toInt32)), .val (.int (1 : Int32))] [(.int (1 : Int32))])) _
              exact retN X16 hx (t := .boolean) Bd.returns (by simp) (hb hby at_69) hr
            · show Q0 Z u0 h0 n0 _ T16.heap _
              rw [e16]
              exact ⟨rfl, N16⟩
set_option maxRecDepth 65536 in
set_option maxHeartbeats 40000000 in
theorem comes_1 {Post : Tables → Env → Array Value → State → Outcome → State → Prop} (hpost : ∀ tb e args s v u, (limb_1_1.after args s (.returned v) u = true ∧ limb_1_2.after args s (.returned v) u = true ∧ True) → FrameEnd s (.returned v) u (Jvm.fieldLocs frame_1_writes args s ++ Jvm.arrayLocs frame_1_arrays args s ++ Jvm.staticLocs frame_1_statics s) 0 0 → Post tb e args s (.returned v) u) :
    ArmFor flags0 classFile x code maxLocals ret World_1 tables_1 room_1 Calls_1 rest_1 Pre_1 Post := by
  intro l hfl _ _ p e ha hc hk s m args below hf hA hF happ hP
  obtain ⟨hcalls, hrest, hpre⟩ := hP
  obtain ⟨-, -, -, hnamed, -, -, -, hat⟩ := (Spec.applies_iff hf).mp happ
  obtain ⟨hg, hn⟩ := and_e (Cond.before_iff.mp (show (Jvm.Cond.and given_1 narrow_1).before args s = true from hpre))
  obtain ⟨g1, g2⟩ := and_e hg
  obtain ⟨w0, rfl⟩ : ∃ w0 : Value, args = #[w0] := by
    have hs : args.size = 1 := by simpa [Cond.value, given_1] using g1
    obtain ⟨L⟩ := args
    match L, hs with
    | [w0], _ => exact ⟨w0, rfl⟩
  have hw := fun d (hd : d ∈ tables_1) => atoms_spec (ws := Jvm.Cond.code x code maxLocals ret :: tables_1) hat d (List.mem_cons_of_mem _ hd)
  have hfit : Fit s := fun {y c} hc i hi => by
    obtain ⟨ha, rfl⟩ := Array.getElem?_eq_some_iff.mp hc
    have q := List.all_eq_true.mp ((Array.all_eq_true_iff_forall_mem.mp hF) _ (Array.getElem_mem ha)) i (List.mem_range.mpr hi)
    simpa [Array.getElem?_eq_getElem hi] using q
  obtain ⟨i0, ei0⟩ := is_v g2
  obtain rfl : w0 = (.int i0) := Option.some.inj ei0
  obtain ⟨n, o, h1, h2, h3, _, L, rfl, ⟨rfl, N⟩, hq⟩ := rm0 l s _ hw tables_1 i0 s.heap s.heap.size (Nat.le_refl _)  p e ha hc hk s m _ below hf ((Spec.applies_iff_loose hf).mp happ).1 ⟨rfl, State.Warmed39.refl s, rfl⟩ trivial
  refine ⟨n, _, h1, h2, h3, hpost _ _ _ _ _ _ ⟨Cond.after_iff.mpr rfl, Cond.after_iff.mpr (eq_i res_at (Term.int_eval (1)) rfl), trivial⟩ ⟨hq.1, hq.2.1, (hq.2.2.sift fun y hy => Or.inr (N y hy)).mono (by decide) (by decide)⟩⟩
theorem main_1_1 : Claimed_1_1 := comes_1 fun _ _ _ _ _ _ h hF => ⟨h.1, hF⟩
theorem main_1_2 : Claimed_1_2 := comes_1 fun _ _ _ _ _ _ h hF => ⟨h.2.1, hF⟩
end Jvm.Pilot.@@N@@
namespace Jvm.Pilot.@@N@@
open Jvm Jvm.ClassFile Sem Op Lib Jvm.Free Jvm.Stand Jvm.Pilot.@@N@@.Jvm.D
/-! MADE BY PROGRAM (witnessworld.py) out of the Statement's table words and the real class files: 12 classes; the members and pool entries that the words name. The judged class is class 1, her method 1. -/
namespace start1
open Jvm.ClassFile
def u (s : String) : CpInfo := .utf8 (stringToUtf16 s)
/-- a pool by its gaps: so many unusable entries, then the entry; so many at the end -/
def gap : Nat → List CpInfo → List CpInfo
  | 0, r => r
  | n + 1, r => .unusable :: gap n r
def poolList (es : List (Nat × CpInfo)) (last : Nat) : List CpInfo := es.foldr (fun e r => gap e.1 (e.2 :: r)) (gap last [])
def pool (es : List (Nat × CpInfo)) (last : Nat) : Array CpInfo := ⟨poolList es last⟩
def fileOf (pool : Array CpInfo) (this : Nat) (attrs : Array Attribute := #[]) (ms : Array MethodInfo := #[]) (fl : Nat := 33) (sup : Nat := 0) (ifs : Array Nat := #[]) (fds : Array FieldInfo := #[]) : ClassFile where
  minorVersion := 0
  majorVersion := 65
  constantPool := pool
  accessFlags := fl
  thisClass := this
  superClass := sup
  interfaces := ifs
  fields := fds
  methods := ms
  attributes := attrs
def plain (name : String) (sup : Option ClassId) : Class where
  name := name
  kind := .ordinary
  loader := none
  accessFlags := 33
  super := sup
  interfaces := #[]
  cf := none
  fields := #[]
  methods := #[]
  instanceTypes := #[]
  staticTypes := #[]
  resolved := #[]
  callSites := []
  init := .initialized
  statics := none
  mirror := none

def pool0 : Array CpInfo := pool [(5, u "<init>"), (0, u "()V"), (1, .class_ 10), (1, u "java/lang/Object")] 113

def k0m0 : Method := { name := "<init>", desc := "()V", sig := { parameters := [], returnType := none }, accessFlags := 1, code := none }
/-- java/lang/Object -/
def k0 : Class := { plain "java/lang/Object" none with
  accessFlags := 33
  interfaces := #[]
  cf := some (fileOf pool0 8 #[] #[{ accessFlags := 1, nameIndex := 5, descriptorIndex := 6, attributes := #[] }] 33 0 #[] #[])
  fields := #[]
  methods := #[k0m0]
  instanceTypes := #[]
  staticTypes := #[]
  resolved := Array.replicate 124 none
  statics := none }

def pool1 : Array CpInfo := pool [(2, .class_ 4), (1, u "java/lang/Object"), (0, u "<init>"), (0, u "()V"), (0, .integer 65535), (0, .integer 55295), (0, .integer 57344), (0, .integer 65533), (0, .methodref 12 13), (0, .class_ 14), (0, .nameAndType 15 16), (0, u "com/example/rehydra/rehydra/XmlText"), (0, u "isAllowedAlone"), (0, u "(C)Z"), (0, .class_ 18), (0, u "com/example/rehydra/rehydra/XmlTextIsAllowedAlonePinLaw"), (2, u "law"), (0, u "(I)Z")] 3

def k1m0 : Method := { name := "<init>", desc := "()V", sig := { parameters := [], returnType := none }, accessFlags := 2, code := none }
def k1c1 : Code := { maxStack := 2, maxLocals := 4, code := code, exceptionTable := #[], attributes := #[] }
def k1m1 : Method := { name := "law", desc := "(I)Z", sig := { parameters := [.int], returnType := some .boolean }, accessFlags := 9, code := some k1c1 }
/-- com/example/rehydra/rehydra/XmlTextIsAllowedAlonePinLaw -/
def k1 : Class := { plain "com/example/rehydra/rehydra/XmlTextIsAllowedAlonePinLaw" (some 0) with
  accessFlags := 49
  interfaces := #[]
  cf := some (fileOf pool1 17 #[] #[{ accessFlags := 2, nameIndex := 5, descriptorIndex := 6, attributes := #[] }, { accessFlags := 9, nameIndex := 21, descriptorIndex := 22, attributes := #[] }] 49 2 #[] #[])
  fields := #[]
  methods := #[k1m0, k1m1]
  instanceTypes := #[]
  staticTypes := #[]
  resolved := Array.replicate 26 none
  statics := none }

def pool2 : Array CpInfo := pool [(2, .class_ 4), (1, u "java/lang/Object"), (0, u "<init>"), (0, u "()V"), (4, .class_ 13), (1, u "com/example/rehydra/rehydra/XmlText"), (25, .class_ 41), (1, u "java/lang/Character"), (1, u "(C)Z"), (8, u "isAllowedAlone"), (42, .methodref 39 96), (0, .nameAndType 97 43), (0, u "isSurrogate"), (0, .integer 65534), (0, .integer 65535)] 21

def k2m0 : Method := { name := "<init>", desc := "()V", sig := { parameters := [], returnType := none }, accessFlags := 2, code := none }
def k2c1 : Code := { maxStack := 2, maxLocals := 1, code := prog_41_method_6_code, exceptionTable := #[], attributes := #[] }
def k2m1 : Method := { name := "isAllowedAlone", desc := "(C)Z", sig := { parameters := [.char], returnType := some .boolean }, accessFlags := 8, code := some k2c1 }
/-- com/example/rehydra/rehydra/XmlText -/
def k2 : Class := { plain "com/example/rehydra/rehydra/XmlText" (some 0) with
  accessFlags := 48
  interfaces := #[]
  cf := some (fileOf pool2 11 #[] #[{ accessFlags := 2, nameIndex := 5, descriptorIndex := 6, attributes := #[] }, { accessFlags := 8, nameIndex := 52, descriptorIndex := 43, attributes := #[] }] 48 2 #[] #[])
  fields := #[]
  methods := #[k2m0, k2m1]
  instanceTypes := #[]
  staticTypes := #[]
  resolved := Array.replicate 121 none
  statics := none }

def pool3 : Array CpInfo := pool [(1, .class_ 2), (0, u "java/io/Serializable"), (0, .class_ 4), (0, u "java/lang/Object")] 2

/-- java/io/Serializable -/
def k3 : Class := { plain "java/io/Serializable" (some 0) with
  accessFlags := 1537
  interfaces := #[]
  cf := some (fileOf pool3 1 #[] #[] 1537 3 #[] #[])
  fields := #[]
  methods := #[]
  instanceTypes := #[]
  staticTypes := #[]
  resolved := Array.replicate 7 none
  statics := none }

def pool4 : Array CpInfo := pool [(1, .class_ 2), (0, u "java/lang/Comparable"), (0, .class_ 4), (0, u "java/lang/Object")] 7

/-- java/lang/Comparable -/
def k4 : Class := { plain "java/lang/Comparable" (some 0) with
  accessFlags := 1537
  interfaces := #[]
  cf := some (fileOf pool4 1 #[] #[] 1537 3 #[] #[])
  fields := #[]
  methods := #[]
  instanceTypes := #[]
  staticTypes := #[]
  resolved := Array.replicate 12 none
  statics := none }

def pool5 : Array CpInfo := pool [(1, .class_ 2), (0, u "java/lang/constant/Constable"), (0, .class_ 4), (0, u "java/lang/Object")] 6

/-- java/lang/constant/Constable -/
def k5 : Class := { plain "java/lang/constant/Constable" (some 0) with
  accessFlags := 1537
  interfaces := #[]
  cf := some (fileOf pool5 1 #[] #[] 1537 3 #[] #[])
  fields := #[]
  methods := #[]
  instanceTypes := #[]
  staticTypes := #[]
  resolved := Array.replicate 11 none
  statics := none }

def pool6 : Array CpInfo := pool [(1, .class_ 2), (0, u "java/lang/Character"), (18, u "value"), (0, u "C"), (19, .class_ 44), (1, u "java/lang/Object"), (3, .class_ 50), (1, u "java/lang/Character$CharacterCache"), (24, .integer 55296), (1, .integer 57344), (3, u "(C)Z"), (202, u "$assertionsDisabled"), (0, u "Z"), (21, .class_ 309), (1, u "java/lang/Character$UnicodeBlock"), (73, u "TYPE"), (0, u "Ljava/lang/Class;"), (0, .class_ 386), (0, u "java/io/Serializable"), (0, .class_ 388), (0, u "java/lang/Comparable"), (0, .class_ 390), (0, u "java/lang/constant/Constable"), (0, u "MIN_RADIX"), (0, u "I"), (2, u "MAX_RADIX"), (1, u "MIN_VALUE"), (1, u "MAX_VALUE"), (3, u "UNASSIGNED"), (0, u "B"), (0, u "UPPERCASE_LETTER"), (1, u "LOWERCASE_LETTER"), (0, u "TITLECASE_LETTER"), (1, u "MODIFIER_LETTER"), (1, u "OTHER_LETTER"), (1, u "NON_SPACING_MARK"), (1, u "ENCLOSING_MARK"), (1, u "COMBINING_SPACING_MARK"), (1, u "DECIMAL_DIGIT_NUMBER"), (1, u "LETTER_NUMBER"), (1, u "OTHER_NUMBER"), (1, u "SPACE_SEPARATOR"), (1, u "LINE_SEPARATOR"), (1, u "PARAGRAPH_SEPARATOR"), (1, u "CONTROL"), (1, u "FORMAT"), (1, u "PRIVATE_USE"), (1, u "SURROGATE"), (1, u "DASH_PUNCTUATION"), (1, u "START_PUNCTUATION"), (1, u "END_PUNCTUATION"), (1, u "CONNECTOR_PUNCTUATION"), (1, u "OTHER_PUNCTUATION"), (1, u "MATH_SYMBOL"), (1, u "CURRENCY_SYMBOL"), (1, u "MODIFIER_SYMBOL"), (1, u "OTHER_SYMBOL"), (1, u "INITIAL_QUOTE_PUNCTUATION"), (1, u "FINAL_QUOTE_PUNCTUATION"), (1, u "ERROR"), (1, u "DIRECTIONALITY_UNDEFINED"), (0, u "DIRECTIONALITY_LEFT_TO_RIGHT"), (0, u "DIRECTIONALITY_RIGHT_TO_LEFT"), (0, u "DIRECTIONALITY_RIGHT_TO_LEFT_ARABIC"), (0, u "DIRECTIONALITY_EUROPEAN_NUMBER"), (0, u "DIRECTIONALITY_EUROPEAN_NUMBER_SEPARATOR"), (0, u "DIRECTIONALITY_EUROPEAN_NUMBER_TERMINATOR"), (0, u "DIRECTIONALITY_ARABIC_NUMBER"), (0, u "DIRECTIONALITY_COMMON_NUMBER_SEPARATOR"), (0, u "DIRECTIONALITY_NONSPACING_MARK"), (0, u "DIRECTIONALITY_BOUNDARY_NEUTRAL"), (0, u "DIRECTIONALITY_PARAGRAPH_SEPARATOR"), (0, u "DIRECTIONALITY_SEGMENT_SEPARATOR"), (0, u "DIRECTIONALITY_WHITESPACE"), (0, u "DIRECTIONALITY_OTHER_NEUTRALS"), (0, u "DIRECTIONALITY_LEFT_TO_RIGHT_EMBEDDING"), (0, u "DIRECTIONALITY_LEFT_TO_RIGHT_OVERRIDE"), (0, u "DIRECTIONALITY_RIGHT_TO_LEFT_EMBEDDING"), (0, u "DIRECTIONALITY_RIGHT_TO_LEFT_OVERRIDE"), (1, u "DIRECTIONALITY_POP_DIRECTIONAL_FORMAT"), (0, u "DIRECTIONALITY_LEFT_TO_RIGHT_ISOLATE"), (0, u "DIRECTIONALITY_RIGHT_TO_LEFT_ISOLATE"), (0, u "DIRECTIONALITY_FIRST_STRONG_ISOLATE"), (0, u "DIRECTIONALITY_POP_DIRECTIONAL_ISOLATE"), (0, u "MIN_HIGH_SURROGATE"), (0, u "MAX_HIGH_SURROGATE"), (1, u "MIN_LOW_SURROGATE"), (0, u "MAX_LOW_SURROGATE"), (1, u "MIN_SURROGATE"), (0, u "MAX_SURROGATE"), (0, u "MIN_SUPPLEMENTARY_CODE_POINT"), (0, u "MIN_CODE_POINT"), (0, u "MAX_CODE_POINT"), (1, u "serialVersionUID"), (0, u "J"), (2, u "SIZE"), (0, u "BYTES"), (24, u "isSurrogate"), (63, .class_ 596), (0, u "java/lang/Character$UnicodeScript"), (0, .class_ 598), (0, u "java/lang/Character$Subset")] 5

def k6c0 : Code := { maxStack := 2, maxLocals := 1, code := jdk_89_method_16_code, exceptionTable := #[], attributes := #[] }
def k6m0 : Method := { name := "isSurrogate", desc := "(C)Z", sig := { parameters := [.char], returnType := some .boolean }, accessFlags := 9, code := some k6c0 }
/-- java/lang/Character -/
def k6 : Class := { plain "java/lang/Character" (some 0) with
  accessFlags := 49
  interfaces := #[3, 4, 5]
  cf := some (fileOf pool6 1 #[.nestMembers #[48, 595, 307, 597]] #[{ accessFlags := 9, nameIndex := 531, descriptorIndex := 81, attributes := #[] }] 49 42 #[385, 387, 389] #[{ accessFlags := 25, nameIndex := 391, descriptorIndex := 392, attributes := #[] }, { accessFlags := 25, nameIndex := 395, descriptorIndex := 392, attributes := #[] }, { accessFlags := 25, nameIndex := 397, descriptorIndex := 22, attributes := #[] }, { accessFlags := 25, nameIndex := 399, descriptorIndex := 22, attributes := #[] }, { accessFlags := 25, nameIndex := 383, descriptorIndex := 384, attributes := #[] }, { accessFlags := 25, nameIndex := 403, descriptorIndex := 404, attributes := #[] }, { accessFlags := 25, nameIndex := 405, descriptorIndex := 404, attributes := #[] }, { accessFlags := 25, nameIndex := 407, descriptorIndex := 404, attributes := #[] }, { accessFlags := 25, nameIndex := 408, descriptorIndex := 404, attributes := #[] }, { accessFlags := 25, nameIndex := 410, descriptorIndex := 404, attributes := #[] }, { accessFlags := 25, nameIndex := 412, descriptorIndex := 404, attributes := #[] }, { accessFlags := 25, nameIndex := 414, descriptorIndex := 404, attributes := #[] }, { accessFlags := 25, nameIndex := 416, descriptorIndex := 404, attributes := #[] }, { accessFlags := 25, nameIndex := 418, descriptorIndex := 404, attributes := #[] }, { accessFlags := 25, nameIndex := 420, descriptorIndex := 404, attributes := #[] }, { accessFlags := 25, nameIndex := 422, descriptorIndex := 404, attributes := #[] }, { accessFlags := 25, nameIndex := 424, descriptorIndex := 404, attributes := #[] }, { accessFlags := 25, nameIndex := 426, descriptorIndex := 404, attributes := #[] }, { accessFlags := 25, nameIndex := 428, descriptorIndex := 404, attributes := #[] }, { accessFlags := 25, nameIndex := 430, descriptorIndex := 404, attributes := #[] }, { accessFlags := 25, nameIndex := 432, descriptorIndex := 404, attributes := #[] }, { accessFlags := 25, nameIndex := 434, descriptorIndex := 404, attributes := #[] }, { accessFlags := 25, nameIndex := 436, descriptorIndex := 404, attributes := #[] }, { accessFlags := 25, nameIndex := 438, descriptorIndex := 404, attributes := #[] }, { accessFlags := 25, nameIndex := 440, descriptorIndex := 404, attributes := #[] }, { accessFlags := 25, nameIndex := 442, descriptorIndex := 404, attributes := #[] }, { accessFlags := 25, nameIndex := 444, descriptorIndex := 404, attributes := #[] }, { accessFlags := 25, nameIndex := 446, descriptorIndex := 404, attributes := #[] }, { accessFlags := 25, nameIndex := 448, descriptorIndex := 404, attributes := #[] }, { accessFlags := 25, nameIndex := 450, descriptorIndex := 404, attributes := #[] }, { accessFlags := 25, nameIndex := 452, descriptorIndex := 404, attributes := #[] }, { accessFlags := 25, nameIndex := 454, descriptorIndex := 404, attributes := #[] }, { accessFlags := 25, nameIndex := 456, descriptorIndex := 404, attributes := #[] }, { accessFlags := 25, nameIndex := 458, descriptorIndex := 404, attributes := #[] }, { accessFlags := 25, nameIndex := 460, descriptorIndex := 404, attributes := #[] }, { accessFlags := 24, nameIndex := 462, descriptorIndex := 392, attributes := #[] }, { accessFlags := 25, nameIndex := 464, descriptorIndex := 404, attributes := #[] }, { accessFlags := 25, nameIndex := 465, descriptorIndex := 404, attributes := #[] }, { accessFlags := 25, nameIndex := 466, descriptorIndex := 404, attributes := #[] }, { accessFlags := 25, nameIndex := 467, descriptorIndex := 404, attributes := #[] }, { accessFlags := 25, nameIndex := 468, descriptorIndex := 404, attributes := #[] }, { accessFlags := 25, nameIndex := 469, descriptorIndex := 404, attributes := #[] }, { accessFlags := 25, nameIndex := 470, descriptorIndex := 404, attributes := #[] }, { accessFlags := 25, nameIndex := 471, descriptorIndex := 404, attributes := #[] }, { accessFlags := 25, nameIndex := 472, descriptorIndex := 404, attributes := #[] }, { accessFlags := 25, nameIndex := 473, descriptorIndex := 404, attributes := #[] }, { accessFlags := 25, nameIndex := 474, descriptorIndex := 404, attributes := #[] }, { accessFlags := 25, nameIndex := 475, descriptorIndex := 404, attributes := #[] }, { accessFlags := 25, nameIndex := 476, descriptorIndex := 404, attributes := #[] }, { accessFlags := 25, nameIndex := 477, descriptorIndex := 404, attributes := #[] }, { accessFlags := 25, nameIndex := 478, descriptorIndex := 404, attributes := #[] }, { accessFlags := 25, nameIndex := 479, descriptorIndex := 404, attributes := #[] }, { accessFlags := 25, nameIndex := 480, descriptorIndex := 404, attributes := #[] }, { accessFlags := 25, nameIndex := 481, descriptorIndex := 404, attributes := #[] }, { accessFlags := 25, nameIndex := 482, descriptorIndex := 404, attributes := #[] }, { accessFlags := 25, nameIndex := 484, descriptorIndex := 404, attributes := #[] }, { accessFlags := 25, nameIndex := 485, descriptorIndex := 404, attributes := #[] }, { accessFlags := 25, nameIndex := 486, descriptorIndex := 404, attributes := #[] }, { accessFlags := 25, nameIndex := 487, descriptorIndex := 404, attributes := #[] }, { accessFlags := 25, nameIndex := 488, descriptorIndex := 404, attributes := #[] }, { accessFlags := 25, nameIndex := 489, descriptorIndex := 22, attributes := #[] }, { accessFlags := 25, nameIndex := 490, descriptorIndex := 22, attributes := #[] }, { accessFlags := 25, nameIndex := 492, descriptorIndex := 22, attributes := #[] }, { accessFlags := 25, nameIndex := 493, descriptorIndex := 22, attributes := #[] }, { accessFlags := 25, nameIndex := 495, descriptorIndex := 22, attributes := #[] }, { accessFlags := 25, nameIndex := 496, descriptorIndex := 22, attributes := #[] }, { accessFlags := 25, nameIndex := 497, descriptorIndex := 392, attributes := #[] }, { accessFlags := 25, nameIndex := 498, descriptorIndex := 392, attributes := #[] }, { accessFlags := 25, nameIndex := 499, descriptorIndex := 392, attributes := #[] }, { accessFlags := 18, nameIndex := 21, descriptorIndex := 22, attributes := #[] }, { accessFlags := 26, nameIndex := 501, descriptorIndex := 502, attributes := #[] }, { accessFlags := 25, nameIndex := 505, descriptorIndex := 392, attributes := #[] }, { accessFlags := 25, nameIndex := 506, descriptorIndex := 392, attributes := #[] }, { accessFlags := 4120, nameIndex := 284, descriptorIndex := 285, attributes := #[] }])
  fields := #[{ name := "MIN_RADIX", type := .int, accessFlags := 25, slot := 0, constantValue := 0 }, { name := "MAX_RADIX", type := .int, accessFlags := 25, slot := 1, constantValue := 0 }, { name := "MIN_VALUE", type := .char, accessFlags := 25, slot := 2, constantValue := 0 }, { name := "MAX_VALUE", type := .char, accessFlags := 25, slot := 3, constantValue := 0 }, { name := "TYPE", type := (.object "java/lang/Class"), accessFlags := 25, slot := 4, constantValue := 0 }, { name := "UNASSIGNED", type := .byte, accessFlags := 25, slot := 5, constantValue := 0 }, { name := "UPPERCASE_LETTER", type := .byte, accessFlags := 25, slot := 6, constantValue := 0 }, { name := "LOWERCASE_LETTER", type := .byte, accessFlags := 25, slot := 7, constantValue := 0 }, { name := "TITLECASE_LETTER", type := .byte, accessFlags := 25, slot := 8, constantValue := 0 }, { name := "MODIFIER_LETTER", type := .byte, accessFlags := 25, slot := 9, constantValue := 0 }, { name := "OTHER_LETTER", type := .byte, accessFlags := 25, slot := 10, constantValue := 0 }, { name := "NON_SPACING_MARK", type := .byte, accessFlags := 25, slot := 11, constantValue := 0 }, { name := "ENCLOSING_MARK", type := .byte, accessFlags := 25, slot := 12, constantValue := 0 }, { name := "COMBINING_SPACING_MARK", type := .byte, accessFlags := 25, slot := 13, constantValue := 0 }, { name := "DECIMAL_DIGIT_NUMBER", type := .byte, accessFlags := 25, slot := 14, constantValue := 0 }, { name := "LETTER_NUMBER", type := .byte, accessFlags := 25, slot := 15, constantValue := 0 }, { name := "OTHER_NUMBER", type := .byte, accessFlags := 25, slot := 16, constantValue := 0 }, { name := "SPACE_SEPARATOR", type := .byte, accessFlags := 25, slot := 17, constantValue := 0 }, { name := "LINE_SEPARATOR", type := .byte, accessFlags := 25, slot := 18, constantValue := 0 }, { name := "PARAGRAPH_SEPARATOR", type := .byte, accessFlags := 25, slot := 19, constantValue := 0 }, { name := "CONTROL", type := .byte, accessFlags := 25, slot := 20, constantValue := 0 }, { name := "FORMAT", type := .byte, accessFlags := 25, slot := 21, constantValue := 0 }, { name := "PRIVATE_USE", type := .byte, accessFlags := 25, slot := 22, constantValue := 0 }, { name := "SURROGATE", type := .byte, accessFlags := 25, slot := 23, constantValue := 0 }, { name := "DASH_PUNCTUATION", type := .byte, accessFlags := 25, slot := 24, constantValue := 0 }, { name := "START_PUNCTUATION", type := .byte, accessFlags := 25, slot := 25, constantValue := 0 }, { name := "END_PUNCTUATION", type := .byte, accessFlags := 25, slot := 26, constantValue := 0 }, { name := "CONNECTOR_PUNCTUATION", type := .byte, accessFlags := 25, slot := 27, constantValue := 0 }, { name := "OTHER_PUNCTUATION", type := .byte, accessFlags := 25, slot := 28, constantValue := 0 }, { name := "MATH_SYMBOL", type := .byte, accessFlags := 25, slot := 29, constantValue := 0 }, { name := "CURRENCY_SYMBOL", type := .byte, accessFlags := 25, slot := 30, constantValue := 0 }, { name := "MODIFIER_SYMBOL", type := .byte, accessFlags := 25, slot := 31, constantValue := 0 }, { name := "OTHER_SYMBOL", type := .byte, accessFlags := 25, slot := 32, constantValue := 0 }, { name := "INITIAL_QUOTE_PUNCTUATION", type := .byte, accessFlags := 25, slot := 33, constantValue := 0 }, { name := "FINAL_QUOTE_PUNCTUATION", type := .byte, accessFlags := 25, slot := 34, constantValue := 0 }, { name := "ERROR", type := .int, accessFlags := 24, slot := 35, constantValue := 0 }, { name := "DIRECTIONALITY_UNDEFINED", type := .byte, accessFlags := 25, slot := 36, constantValue := 0 }, { name := "DIRECTIONALITY_LEFT_TO_RIGHT", type := .byte, accessFlags := 25, slot := 37, constantValue := 0 }, { name := "DIRECTIONALITY_RIGHT_TO_LEFT", type := .byte, accessFlags := 25, slot := 38, constantValue := 0 }, { name := "DIRECTIONALITY_RIGHT_TO_LEFT_ARABIC", type := .byte, accessFlags := 25, slot := 39, constantValue := 0 }, { name := "DIRECTIONALITY_EUROPEAN_NUMBER", type := .byte, accessFlags := 25, slot := 40, constantValue := 0 }, { name := "DIRECTIONALITY_EUROPEAN_NUMBER_SEPARATOR", type := .byte, accessFlags := 25, slot := 41, constantValue := 0 }, { name := "DIRECTIONALITY_EUROPEAN_NUMBER_TERMINATOR", type := .byte, accessFlags := 25, slot := 42, constantValue := 0 }, { name := "DIRECTIONALITY_ARABIC_NUMBER", type := .byte, accessFlags := 25, slot := 43, constantValue := 0 }, { name := "DIRECTIONALITY_COMMON_NUMBER_SEPARATOR", type := .byte, accessFlags := 25, slot := 44, constantValue := 0 }, { name := "DIRECTIONALITY_NONSPACING_MARK", type := .byte, accessFlags := 25, slot := 45, constantValue := 0 }, { name := "DIRECTIONALITY_BOUNDARY_NEUTRAL", type := .byte, accessFlags := 25, slot := 46, constantValue := 0 }, { name := "DIRECTIONALITY_PARAGRAPH_SEPARATOR", type := .byte, accessFlags := 25, slot := 47, constantValue := 0 }, { name := "DIRECTIONALITY_SEGMENT_SEPARATOR", type := .byte, accessFlags := 25, slot := 48, constantValue := 0 }, { name := "DIRECTIONALITY_WHITESPACE", type := .byte, accessFlags := 25, slot := 49, constantValue := 0 }, { name := "DIRECTIONALITY_OTHER_NEUTRALS", type := .byte, accessFlags := 25, slot := 50, constantValue := 0 }, { name := "DIRECTIONALITY_LEFT_TO_RIGHT_EMBEDDING", type := .byte, accessFlags := 25, slot := 51, constantValue := 0 }, { name := "DIRECTIONALITY_LEFT_TO_RIGHT_OVERRIDE", type := .byte, accessFlags := 25, slot := 52, constantValue := 0 }, { name := "DIRECTIONALITY_RIGHT_TO_LEFT_EMBEDDING", type := .byte, accessFlags := 25, slot := 53, constantValue := 0 }, { name := "DIRECTIONALITY_RIGHT_TO_LEFT_OVERRIDE", type := .byte, accessFlags := 25, slot := 54, constantValue := 0 }, { name := "DIRECTIONALITY_POP_DIRECTIONAL_FORMAT", type := .byte, accessFlags := 25, slot := 55, constantValue := 0 }, { name := "DIRECTIONALITY_LEFT_TO_RIGHT_ISOLATE", type := .byte, accessFlags := 25, slot := 56, constantValue := 0 }, { name := "DIRECTIONALITY_RIGHT_TO_LEFT_ISOLATE", type := .byte, accessFlags := 25, slot := 57, constantValue := 0 }, { name := "DIRECTIONALITY_FIRST_STRONG_ISOLATE", type := .byte, accessFlags := 25, slot := 58, constantValue := 0 }, { name := "DIRECTIONALITY_POP_DIRECTIONAL_ISOLATE", type := .byte, accessFlags := 25, slot := 59, constantValue := 0 }, { name := "MIN_HIGH_SURROGATE", type := .char, accessFlags := 25, slot := 60, constantValue := 0 }, { name := "MAX_HIGH_SURROGATE", type := .char, accessFlags := 25, slot := 61, constantValue := 0 }, { name := "MIN_LOW_SURROGATE", type := .char, accessFlags := 25, slot := 62, constantValue := 0 }, { name := "MAX_LOW_SURROGATE", type := .char, accessFlags := 25, slot := 63, constantValue := 0 }, { name := "MIN_SURROGATE", type := .char, accessFlags := 25, slot := 64, constantValue := 0 }, { name := "MAX_SURROGATE", type := .char, accessFlags := 25, slot := 65, constantValue := 0 }, { name := "MIN_SUPPLEMENTARY_CODE_POINT", type := .int, accessFlags := 25, slot := 66, constantValue := 0 }, { name := "MIN_CODE_POINT", type := .int, accessFlags := 25, slot := 67, constantValue := 0 }, { name := "MAX_CODE_POINT", type := .int, accessFlags := 25, slot := 68, constantValue := 0 }, { name := "value", type := .char, accessFlags := 18, slot := 0, constantValue := 0 }, { name := "serialVersionUID", type := .long, accessFlags := 26, slot := 69, constantValue := 0 }, { name := "SIZE", type := .int, accessFlags := 25, slot := 70, constantValue := 0 }, { name := "BYTES", type := .int, accessFlags := 25, slot := 71, constantValue := 0 }, { name := "$assertionsDisabled", type := .boolean, accessFlags := 4120, slot := 72, constantValue := 0 }]
  methods := #[k6m0]
  instanceTypes := #[.char]
  staticTypes := #[.int, .int, .char, .char, (.object "java/lang/Class"), .byte, .byte, .byte, .byte, .byte, .byte, .byte, .byte, .byte, .byte, .byte, .byte, .byte, .byte, .byte, .byte, .byte, .byte, .byte, .byte, .byte, .byte, .byte, .byte, .byte, .byte, .byte, .byte, .byte, .byte, .int, .byte, .byte, .byte, .byte, .byte, .byte, .byte, .byte, .byte, .byte, .byte, .byte, .byte, .byte, .byte, .byte, .byte, .byte, .byte, .byte, .byte, .byte, .byte, .byte, .char, .char, .char, .char, .char, .char, .int, .int, .int, .long, .int, .int, .boolean]
  resolved := Array.replicate 604 none
  statics := none }

def pool7 : Array CpInfo := pool [(1, u "java/lang/Cloneable"), (0, .class_ 1), (0, u "java/lang/Object"), (0, .class_ 3)] 3

/-- java/lang/Cloneable -/
def k7 : Class := { plain "java/lang/Cloneable" (some 0) with
  accessFlags := 1537
  interfaces := #[]
  cf := some (fileOf pool7 2 #[] #[] 1537 4 #[] #[])
  fields := #[]
  methods := #[]
  instanceTypes := #[]
  staticTypes := #[]
  resolved := Array.replicate 8 none
  statics := none }

/-- the primitive byte -/
def k8 : Class := { plain "byte" none with kind := .primitive 'B', accessFlags := 0x411 }
/-- [B -/
def k9 : Class := { plain "[B" (some 0) with kind := .array 8 .byte, interfaces := #[7, 3], accessFlags := 1041 }

/-- the primitive int -/
def k10 : Class := { plain "int" none with kind := .primitive 'I', accessFlags := 0x411 }
/-- [I -/
def k11 : Class := { plain "[I" (some 0) with kind := .array 10 .int, interfaces := #[7, 3], accessFlags := 1041 }

def heap : Heap := #[]
def classes : Array Class := #[k0, k1, k2, k3, k4, k5, k6, k7, k8, k9, k10, k11]
def interned : List (Array UInt16 × Addr) := []
def slotsUsed : Nat := 0
def theMethod : MethodId := ⟨1, 1⟩
def args0 : Array Value := #[.int 5]
def aboutOver (below : List Frame) : State where
  vm := { classes := classes, interned := interned.toArray }
  heap := heap
  slotsUsed := slotsUsed
  threads := #[{ frames := .invoking theMethod args0 :: below }]
def below0 : List Frame := [.native { method := ⟨0, 0⟩, args := #[] }]
def about1 : State := aboutOver below0
def p0 : Program := .bare "" "" ""
def e0 : Env := launch0.env 0 0 0
theorem w_frames : about1.frames = Frame.invoking theMethod args0 :: below0 := rfl
set_option maxRecDepth 65536 in
theorem w_args : argsFit about1.vm theMethod args0 = true := by decide +kernel
set_option maxRecDepth 65536 in
theorem w_heap : heapFits about1 = true := by decide +kernel
set_option maxRecDepth 65536 in
theorem w_runnable : about1.curStatus? = some .runnable := by decide +kernel
set_option maxRecDepth 65536 in
theorem w_alone : about1.alone = true := by decide +kernel
set_option maxRecDepth 65536 in
theorem w_named : about1.methodNamed? x = some theMethod := by decide +kernel
set_option maxRecDepth 65536 in
theorem w_hears : about1.hears theMethod below0 = true := by decide +kernel
set_option maxRecDepth 65536 in
theorem w_ripe : about1.ripe theMethod args0 below0 = true := by decide +kernel
theorem w_running : about1.status = .running := rfl
set_option maxRecDepth 65536 in
theorem w_room : about1.hasRoom e0.platform room_1 = true :=
  launch0.hasRoom_least _ room_1 (by decide +kernel) (by decide +kernel) (by decide +kernel) (by decide +kernel) (by decide +kernel) (by decide +kernel)
theorem allAtoms_all (ts : List Jvm.Cond) (a : Array Jvm.Value) (st : Jvm.State) : (allAtoms ts).before a st = ts.all (fun c => c.before a st) := by
  induction ts with
  | nil => rfl
  | cons c t ih =>
    show (Jvm.Cond.and c (allAtoms t)).before a st = _
    rw [Jvm.Cond.before_and, ih, List.all_cons]
def words1 : List Jvm.Cond := Jvm.Cond.code x code maxLocals ret :: tables_1
/-- a 'code' word, met by the world's own term for the bytes: nothing is compared byte by byte -/
theorem code_word {y : MethodName} {bytes : ByteArray} {mx : Nat} {rt : Option FieldType} {a : Array Value} {s : State} {m : MethodId} {meth : Method} {c : Code} (h1 : s.methodNamed? y = some m) (h2 : s.vm.method? m = some meth) (h3 : meth.code = some c) (h4 : c.code = bytes)
    (h5 : (c.maxLocals == mx && c.exceptionTable.isEmpty && decide (c.maxStack ≤ mostOperands) && decide (meth.sig.returnType = rt) && !meth.locks && decide (parseMethodDescriptor y.desc = some meth.sig)) = true) : (Jvm.Cond.code y bytes mx rt).before a s = true := by
  simp only [Bool.and_eq_true, beq_iff_eq, Bool.not_eq_true', decide_eq_true_eq] at h5
  obtain ⟨⟨⟨⟨⟨g1, g2⟩, g3⟩, g4⟩, g5⟩, g6⟩ := h5
  simp [Cond.before, Cond.holds, Cond.value, h1, h2, h3, h4, g1, g2, g3, g4, g5, g6]
def isCode : Jvm.Cond → Bool
  | .code _ _ _ _ => true
  | _ => false
theorem all_split {L : List Jvm.Cond} {P : Jvm.Cond → Bool} (h1 : L.all (fun c => isCode c || P c) = true) (h2 : ∀ c ∈ L.filter isCode, P c = true) : L.all P = true := by
  refine List.all_eq_true.mpr fun c hc => ?_
  have h := List.all_eq_true.mp h1 c hc
  rcases Bool.eq_false_or_eq_true (isCode c) with hi | hi
  · exact h2 c (List.mem_filter.mpr ⟨hc, hi⟩)
  · simpa [hi] using h
set_option maxRecDepth 65536 in
theorem w_c0 : (Jvm.Cond.code x code maxLocals ret).before args0 about1 = true := code_word (m := ⟨1, 1⟩) (meth := k1m1) (c := k1c1) (by decide +kernel) rfl rfl rfl (by decide +kernel)
set_option maxRecDepth 65536 in
theorem w_c1 : (Jvm.Cond.code ({ cls := "com/example/rehydra/rehydra/XmlText", name := "isAllowedAlone", desc := "(C)Z" } : Jvm.MethodName) prog_41_method_6_code (1 : Nat) (Option.some Jvm.ClassFile.FieldType.boolean)).before args0 about1 = true := code_word (m := ⟨2, 1⟩) (meth := k2m1) (c := k2c1) (by decide +kernel) rfl rfl rfl (by decide +kernel)
set_option maxRecDepth 65536 in
theorem w_c2 : (Jvm.Cond.code ({ cls := "java/lang/Character", name := "isSurrogate", desc := "(C)Z" } : Jvm.MethodName) jdk_89_method_16_code (1 : Nat) (Option.some Jvm.ClassFile.FieldType.boolean)).before args0 about1 = true := code_word (m := ⟨6, 0⟩) (meth := k6m0) (c := k6c0) (by decide +kernel) rfl rfl rfl (by decide +kernel)
def codes1 : List Jvm.Cond := [Jvm.Cond.code x code maxLocals ret, Jvm.Cond.code ({ cls := "com/example/rehydra/rehydra/XmlText", name := "isAllowedAlone", desc := "(C)Z" } : Jvm.MethodName) prog_41_method_6_code (1 : Nat) (Option.some Jvm.ClassFile.FieldType.boolean), Jvm.Cond.code ({ cls := "java/lang/Character", name := "isSurrogate", desc := "(C)Z" } : Jvm.MethodName) jdk_89_method_16_code (1 : Nat) (Option.some Jvm.ClassFile.FieldType.boolean)]
set_option maxRecDepth 65536 in
theorem codes_eq : words1.filter isCode = codes1 := rfl
theorem w_codes : ∀ c ∈ words1.filter isCode, c.before args0 about1 = true := by
  rw [codes_eq]
  intro c hc
  simp only [codes1, List.mem_cons, List.not_mem_nil, or_false] at hc
  rcases hc with rfl | rfl | rfl
  · exact w_c0
  · exact w_c1
  · exact w_c2
set_option maxRecDepth 65536 in
theorem w_t1 : words1.all (fun c => isCode c || c.before args0 about1) = true := by decide +kernel
theorem w_tables : (allAtoms (Jvm.Cond.code x code maxLocals ret :: tables_1)).before args0 about1 = true := by
  rw [allAtoms_all]
  show words1.all (fun c => c.before args0 about1) = true
  refine all_split ?_ w_codes
  rw [w_t1]
set_option maxRecDepth 65536 in
theorem w_case : (Jvm.Cond.and given_1 narrow_1).before args0 about1 = true := by decide +kernel
theorem w_applies : (headSpec (Jvm.Cond.code x code maxLocals ret :: tables_1) room_1).applies x e0.platform about1 = true :=
  (Spec.applies_iff w_frames).mpr ⟨w_running, w_runnable, w_alone, w_named, w_hears, w_ripe, w_room, w_tables⟩
theorem atStart : AtStart classFile x code maxLocals ret World_1 tables_1 room_1 Calls_1 rest_1 Pre_1 launch0 p0 e0 about1 theMethod args0 below0 :=
  ⟨lists_1, trivial, launch0.admits_env _ _ _, launch0.least_env, fairChoices_fair.cas, fairChoices_fair.clock, w_frames, w_args, w_heap, w_applies, trivial, trivial, w_case⟩
end start1
theorem witness_1 : WitnessClaimed_1 := ⟨start1.p0, start1.e0, start1.about1, start1.theMethod, start1.args0, start1.below0, start1.atStart⟩
end Jvm.Pilot.@@N@@
