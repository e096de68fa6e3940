import JvmDerived
import JvmDerived.Pilot.@@N@@Statement
import JvmDerived.Pilot.@@N@@Code
set_option linter.unusedVariables false
set_option linter.unusedSimpArgs false
@@BLOCK:NumsL.lean.txt@@
namespace Jvm.RoadKit
open Sem ClassFile Op Lib Jvm.Stand Jvm.Free Jvm.LawKit
section New
variable {p : Program} {l : Launch} {e : Env} {R : Room} {s : State} {m : MethodId} {args : Array Value} {below : List Frame} {meth : Method} {c : Code} {T : State} {locs : List Loc} {cells slots : Nat}
theorem retI (X : Stand p l e R s m args below meth c T locs cells slots) (hx : p.tables.exec = Jvm.exec) {pc : Nat} {Ls : Array Slot} {z : Int32} {rest : List Value} (hret : meth.sig.returnType = some .int) (hd : decode c.code pc = .ok (.ireturn, 1)) {fs : List Frame}
    (hl : ∀ (f : JFrame) (acts : List Action), f.method = m → f.locked = none → f.entered = [] → (doReturn e (T.setTop f) acts (some (.int z))).1 = T.setFrames fs) : Steps p.tables e below (T.setTop (mkF m pc Ls (.int z :: rest))) (T.setFrames fs) := by
  have hm' : T.vm.method? m = some meth := X.method'
  have hn : narrow .int (.int z) = .int z := rfl
  show Steps p.tables e below (T.setTop { method := m, pc := pc, locals := Ls, stack := _ :: rest, locked := none }) _
  jvm_step X.here [X.here.top, hx, hd, hm', hret, hn]
  first | (intro acts; rw [hl _ acts rfl rfl rfl]) | rw [hl _ _ rfl rfl rfl]
  exact Steps.refl _
end New
end Jvm.RoadKit
namespace Jvm.Pilot.@@N@@
open Jvm Jvm.ClassFile Sem Op Lib Jvm.Free Jvm.Stand Jvm.LawKit Jvm.RoadKit Bundle Jvm.Pilot.@@N@@.Jvm.D
theorem own_fld_int {Z : State} {args : Array Value} {t : Term} {a : Addr} {C n d : String} {k : Int32} (h : (Cond.eq (.field t C n d) (.int k)).value args Z none Z [] = some true) (ev : t.eval args Z none [] Z = some (.ref a)) : Fld Z Z.heap a C n d (.int k) := by
  apply Fld.start
  have e := fld_at (C := C) (n := n) (dd := d) ev
  cases hv : Z.fieldOf? a C n d with
  | none => rw [hv] at e; simp [Cond.value, e] at h
  | some v =>
    rw [hv] at e
    cases v <;> simp_all [Cond.value, Term.eval]
def textOf (u i j k : Addr) : Int32 := if u = i ∨ u = j ∨ u = k then 1 else 0
def pickA (i : Int32) (a_STRING a_INTEGER a_LONG a_FLOAT a_DOUBLE a_BYTE a_SHORT a_CHARACTER a_BOOLEAN a_BINARY : Addr) : Addr := if i = (0 : Int32) then a_STRING else if i = (1 : Int32) then a_INTEGER else if i = (2 : Int32) then a_LONG else if i = (3 : Int32) then a_FLOAT else if i = (4 : Int32) then a_DOUBLE else if i = (5 : Int32) then a_BYTE else if i = (6 : Int32) then a_SHORT else if i = (7 : Int32) then a_CHARACTER else if i = (8 : Int32) then a_BOOLEAN else a_BINARY
theorem own_ten (y : Int32) : 0 ≤ ((y &&& (2147483647 : Int32)) % (10 : Int32)).toInt ∧ ((y &&& (2147483647 : Int32)) % (10 : Int32)).toInt ≤ 9 := by
  have e : (y &&& (2147483647 : Int32)).toInt = y.toInt % 2 ^ 31 := Jvm.Kit.i32_mask y 2147483647 (k := 31) (by decide) (by decide)
  have e2 : ((y &&& (2147483647 : Int32)) % (10 : Int32)).toInt = (y &&& (2147483647 : Int32)).toInt % (10 : Int32).toInt := Jvm.Kit.i32_rem_nonneg (by rw [e]; omega)
  rw [e2, show (10 : Int32).toInt = 10 from by decide]
  omega
theorem own_lit {c k : Int32} (h : c.toInt = k.toInt) : c = k := Int32.toInt_inj.mp h
theorem own_nine {i : Int32} (h0 : 0 ≤ i.toInt) (h1 : i.toInt ≤ 9) : i = 0 ∨ i = 1 ∨ i = 2 ∨ i = 3 ∨ i = 4 ∨ i = 5 ∨ i = 6 ∨ i = 7 ∨ i = 8 ∨ i = 9 := by
  have h : i.toInt = 0 ∨ i.toInt = 1 ∨ i.toInt = 2 ∨ i.toInt = 3 ∨ i.toInt = 4 ∨ i.toInt = 5 ∨ i.toInt = 6 ∨ i.toInt = 7 ∨ i.toInt = 8 ∨ i.toInt = 9 := by omega
  rcases h with h | h | h | h | h | h | h | h | h | h
  · have := own_lit (k := 0) h; simp [this]
  · have := own_lit (k := 1) h; simp [this]
  · have := own_lit (k := 2) h; simp [this]
  · have := own_lit (k := 3) h; simp [this]
  · have := own_lit (k := 4) h; simp [this]
  · have := own_lit (k := 5) h; simp [this]
  · have := own_lit (k := 6) h; simp [this]
  · have := own_lit (k := 7) h; simp [this]
  · have := own_lit (k := 8) h; simp [this]
  · have := own_lit (k := 9) h; simp [this]
theorem pick_exa {Z : State} {h : Heap} {C : String} {a_STRING a_INTEGER a_LONG a_FLOAT a_DOUBLE a_BYTE a_SHORT a_CHARACTER a_BOOLEAN a_BINARY : Addr} (E_STRING : Exa Z h a_STRING C) (E_INTEGER : Exa Z h a_INTEGER C) (E_LONG : Exa Z h a_LONG C) (E_FLOAT : Exa Z h a_FLOAT C) (E_DOUBLE : Exa Z h a_DOUBLE C) (E_BYTE : Exa Z h a_BYTE C) (E_SHORT : Exa Z h a_SHORT C) (E_CHARACTER : Exa Z h a_CHARACTER C) (E_BOOLEAN : Exa Z h a_BOOLEAN C) (E_BINARY : Exa Z h a_BINARY C) (i : Int32) : Exa Z h (pickA i a_STRING a_INTEGER a_LONG a_FLOAT a_DOUBLE a_BYTE a_SHORT a_CHARACTER a_BOOLEAN a_BINARY) C := by
  unfold pickA
  repeat' split
  all_goals assumption
theorem d1_0 : decode method_2_code 0 = .ok (.iload_n 0, 1) := by decide +kernel
theorem d1_1 : decode method_2_code 1 = .ok (.ifCond .ne 7, 3) := by decide +kernel
theorem d1_4 : decode method_2_code 4 = .ok (.getstatic 7, 3) := by decide +kernel
theorem d1_7 : decode method_2_code 7 = .ok (.areturn, 1) := by decide +kernel
theorem d1_8 : decode method_2_code 8 = .ok (.iload_n 0, 1) := by decide +kernel
theorem d1_9 : decode method_2_code 9 = .ok (.iconst 1, 1) := by decide +kernel
theorem d1_10 : decode method_2_code 10 = .ok (.if_icmp .ne 7, 3) := by decide +kernel
theorem d1_13 : decode method_2_code 13 = .ok (.getstatic 13, 3) := by decide +kernel
theorem d1_16 : decode method_2_code 16 = .ok (.areturn, 1) := by decide +kernel
theorem d1_17 : decode method_2_code 17 = .ok (.iload_n 0, 1) := by decide +kernel
theorem d1_18 : decode method_2_code 18 = .ok (.iconst 2, 1) := by decide +kernel
theorem d1_19 : decode method_2_code 19 = .ok (.if_icmp .ne 7, 3) := by decide +kernel
theorem d1_22 : decode method_2_code 22 = .ok (.getstatic 16, 3) := by decide +kernel
theorem d1_25 : decode method_2_code 25 = .ok (.areturn, 1) := by decide +kernel
theorem d1_26 : decode method_2_code 26 = .ok (.iload_n 0, 1) := by decide +kernel
theorem d1_27 : decode method_2_code 27 = .ok (.iconst 3, 1) := by decide +kernel
theorem d1_28 : decode method_2_code 28 = .ok (.if_icmp .ne 7, 3) := by decide +kernel
theorem d1_31 : decode method_2_code 31 = .ok (.getstatic 19, 3) := by decide +kernel
theorem d1_34 : decode method_2_code 34 = .ok (.areturn, 1) := by decide +kernel
theorem d1_35 : decode method_2_code 35 = .ok (.iload_n 0, 1) := by decide +kernel
theorem d1_36 : decode method_2_code 36 = .ok (.iconst 4, 1) := by decide +kernel
theorem d1_37 : decode method_2_code 37 = .ok (.if_icmp .ne 7, 3) := by decide +kernel
theorem d1_40 : decode method_2_code 40 = .ok (.getstatic 22, 3) := by decide +kernel
theorem d1_43 : decode method_2_code 43 = .ok (.areturn, 1) := by decide +kernel
theorem d1_44 : decode method_2_code 44 = .ok (.iload_n 0, 1) := by decide +kernel
theorem d1_45 : decode method_2_code 45 = .ok (.iconst 5, 1) := by decide +kernel
theorem d1_46 : decode method_2_code 46 = .ok (.if_icmp .ne 7, 3) := by decide +kernel
theorem d1_49 : decode method_2_code 49 = .ok (.getstatic 25, 3) := by decide +kernel
theorem d1_52 : decode method_2_code 52 = .ok (.areturn, 1) := by decide +kernel
theorem d1_53 : decode method_2_code 53 = .ok (.iload_n 0, 1) := by decide +kernel
theorem d1_54 : decode method_2_code 54 = .ok (.bipush 6, 2) := by decide +kernel
theorem d1_56 : decode method_2_code 56 = .ok (.if_icmp .ne 7, 3) := by decide +kernel
theorem d1_59 : decode method_2_code 59 = .ok (.getstatic 28, 3) := by decide +kernel
theorem d1_62 : decode method_2_code 62 = .ok (.areturn, 1) := by decide +kernel
theorem d1_63 : decode method_2_code 63 = .ok (.iload_n 0, 1) := by decide +kernel
theorem d1_64 : decode method_2_code 64 = .ok (.bipush 7, 2) := by decide +kernel
theorem d1_66 : decode method_2_code 66 = .ok (.if_icmp .ne 7, 3) := by decide +kernel
theorem d1_69 : decode method_2_code 69 = .ok (.getstatic 31, 3) := by decide +kernel
theorem d1_72 : decode method_2_code 72 = .ok (.areturn, 1) := by decide +kernel
theorem d1_73 : decode method_2_code 73 = .ok (.iload_n 0, 1) := by decide +kernel
theorem d1_74 : decode method_2_code 74 = .ok (.bipush 8, 2) := by decide +kernel
theorem d1_76 : decode method_2_code 76 = .ok (.if_icmp .ne 7, 3) := by decide +kernel
theorem d1_79 : decode method_2_code 79 = .ok (.getstatic 34, 3) := by decide +kernel
theorem d1_82 : decode method_2_code 82 = .ok (.areturn, 1) := by decide +kernel
theorem d1_83 : decode method_2_code 83 = .ok (.getstatic 37, 3) := by decide +kernel
theorem d1_86 : decode method_2_code 86 = .ok (.areturn, 1) := by decide +kernel
theorem pn_com_example_compact_settings_compactsettings_ScalarTypeIsTextPinLaw : plainName "com/example/compact_settings/compactsettings/ScalarTypeIsTextPinLaw" = true := by first | (simp [plainName, overriddenIn]; done) | decide +kernel
theorem ef_1 (m : MethodId) (u0 : Int32) : entryFrame m #[(.int u0)] 1 = mkF m 0 #[.val (.int u0)] [] := by first | (simp [entryFrame, mkF, argsToLocals, Value.category]; done) | rfl
def Q1 (Z : State) (u0 : Int32) (a_STRING : Addr) (a_INTEGER : Addr) (a_LONG : Addr) (a_FLOAT : Addr) (a_DOUBLE : Addr) (a_BYTE : Addr) (a_SHORT : Addr) (a_CHARACTER : Addr) (a_BOOLEAN : Addr) (a_BINARY : Addr) (h0 : Heap) (n0 : Nat) (v : Option Value) (h : Heap) (L : List Loc) : Prop := v = some (.ref (pickA u0 a_STRING a_INTEGER a_LONG a_FLOAT a_DOUBLE a_BYTE a_SHORT a_CHARACTER a_BOOLEAN a_BINARY)) ∧ Fr n0 L ∧ h = h0
set_option maxRecDepth 65536 in
set_option maxHeartbeats 40000000 in
theorem rm1 (l : Launch) (Z : State) (a0 : Array Value) (hw : ∀ d ∈ tables_1, d.before a0 Z = true) (ws : List Jvm.Cond) (u0 : Int32) (a_STRING : Addr) (a_INTEGER : Addr) (a_LONG : Addr) (a_FLOAT : Addr) (a_DOUBLE : Addr) (a_BYTE : Addr) (a_SHORT : Addr) (a_CHARACTER : Addr) (a_BOOLEAN : Addr) (a_BINARY : Addr) (h0 : Heap) (n0 : Nat) (Z0 : n0 ≤ h0.size) (S_STRING : Sta Z h0 "com/example/compact_settings/compactsettings/ScalarType" "STRING" "Lcom/example/compact_settings/compactsettings/ScalarType;" (.ref a_STRING)) (S_INTEGER : Sta Z h0 "com/example/compact_settings/compactsettings/ScalarType" "INTEGER" "Lcom/example/compact_settings/compactsettings/ScalarType;" (.ref a_INTEGER)) (S_LONG : Sta Z h0 "com/example/compact_settings/compactsettings/ScalarType" "LONG" "Lcom/example/compact_settings/compactsettings/ScalarType;" (.ref a_LONG)) (S_FLOAT : Sta Z h0 "com/example/compact_settings/compactsettings/ScalarType" "FLOAT" "Lcom/example/compact_settings/compactsettings/ScalarType;" (.ref a_FLOAT)) (S_DOUBLE : Sta Z h0 "com/example/compact_settings/compactsettings/ScalarType" "DOUBLE" "Lcom/example/compact_settings/compactsettings/ScalarType;" (.ref a_DOUBLE)) (S_BYTE : Sta Z h0 "com/example/compact_settings/compactsettings/ScalarType" "BYTE" "Lcom/example/compact_settings/compactsettings/ScalarType;" (.ref a_BYTE)) (S_SHORT : Sta Z h0 "com/example/compact_settings/compactsettings/ScalarType" "SHORT" "Lcom/example/compact_settings/compactsettings/ScalarType;" (.ref a_SHORT)) (S_CHARACTER : Sta Z h0 "com/example/compact_settings/compactsettings/ScalarType" "CHARACTER" "Lcom/example/compact_settings/compactsettings/ScalarType;" (.ref a_CHARACTER)) (S_BOOLEAN : Sta Z h0 "com/example/compact_settings/compactsettings/ScalarType" "BOOLEAN" "Lcom/example/compact_settings/compactsettings/ScalarType;" (.ref a_BOOLEAN)) (S_BINARY : Sta Z h0 "com/example/compact_settings/compactsettings/ScalarType" "BINARY" "Lcom/example/compact_settings/compactsettings/ScalarType;" (.ref a_BINARY)) :
    MetFree l (⟨"com/example/compact_settings/compactsettings/ScalarTypeIsTextPinLaw", "pick", "(I)Lcom/example/compact_settings/compactsettings/ScalarType;"⟩ : MethodName) (head1 (Jvm.Cond.code (⟨"com/example/compact_settings/compactsettings/ScalarTypeIsTextPinLaw", "pick", "(I)Lcom/example/compact_settings/compactsettings/ScalarType;"⟩ : MethodName) method_2_code 1 (some (.object "com/example/compact_settings/compactsettings/ScalarType")) :: ws) ({ frames := 0, cells := 0, slots := 0, locals := 0 } : Room)) (fun a U => a = #[(.int u0)] ∧ Z.Warmed39 U.vm ∧ U.heap = h0) (fun _ _ _ _ _ => True) (fun _ U o U' => ∃ v L, o = .returned v ∧ Q1 Z u0 a_STRING a_INTEGER a_LONG a_FLOAT a_DOUBLE a_BYTE a_SHORT a_CHARACTER a_BOOLEAN a_BINARY h0 n0 v U'.heap L ∧ FrameEnd U o U' L ({ frames := 0, cells := 0, slots := 0, locals := 0 } : Room).cells ({ frames := 0, cells := 0, slots := 0, locals := 0 } : Room).slots) := by
  refine MetFree.of_bodySF (plainFor_of_name pn_com_example_compact_settings_compactsettings_ScalarTypeIsTextPinLaw) hisR ?_
  intro p e s m args below meth c s₁ Bd hml0 hP hK
  obtain ⟨rfl, hZ, hh⟩ := hP
  have hx := Bd.exec
  have hby := Bd.bytes
  have hml : c.maxLocals = 1 := hml0
  have hown : s.vm.findClass "com/example/compact_settings/compactsettings/ScalarTypeIsTextPinLaw" = some m.cls := findClass_of_methodNamed Bd.named
  have hnm := (name_of_methodNamed Bd.named Bd.method).1
  have X0 : Stand p l e ({ frames := 0, cells := 0, slots := 0, locals := 0 } : Room) s m #[(.int u0)] below meth c s₁ [] 0 0 := Stand.of_body Bd
  have e0 : s₁.heap = h0 := by rw [← hh, Bd.state]; rfl
  have N0 := Fr.nil n0
  have pre0 : ∀ t, Steps p.tables e below (s₁.setTop (mkF m 0 #[.val (.int u0)] [])) t → Steps p.tables e below (s₁.setTop (entryFrame m #[(.int u0)] 1)) t := fun t k => castTop (ef_1 m u0) k
  by_cases hc1 : u0 = (0 : Int32)
  · obtain ⟨T1, X1, e1, st1⟩ := getS2 X0 hx hZ hown (host := "") (Or.inl (hw _ (List.mem_of_getElem? (i := 5) rfl))) Via.refl e0 S_STRING (g := (mkF m 4 #[.val (.int u0)] [])) rfl (hb hby d1_4)
    have hv : pickA u0 a_STRING a_INTEGER a_LONG a_FLOAT a_DOUBLE a_BYTE a_SHORT a_CHARACTER a_BOOLEAN a_BINARY = a_STRING := by
      unfold pickA
      simp [hc1]
    obtain ⟨fs, hr, hrun, hended, hW, hsame⟩ := X1.leave (v := some (.ref a_STRING)) (fun h => by rw [Bd.returns] at h; cases h)
    refine ⟨_, _, pre0 _ ?_, hrun, hended, _, _, rfl, ?_, ⟨_, rfl⟩, hW, hsame.mono (by decide) (by decide)⟩
    · show Steps p.tables e below (s₁.setTop (mkF m 0 #[.val (.int u0)] [])) _
      refine XS.iloadN X0.here hx rfl (hb hby d1_0) rfl ?_
      show Steps p.tables e below (s₁.setTop (mkF m 1 #[.val (.int u0)] [(.int u0)])) _
      refine XS.ifNo X0.here hx rfl (hb hby d1_1) rfl ((if0 _ _).trans (teq hc1).2) ?_
      show Steps p.tables e below (s₁.setTop (mkF m 4 #[.val (.int u0)] [])) _
      refine st1 _ ?_
      show Steps p.tables e below (T1.setTop (mkF m 7 #[.val (.int u0)] [(.ref a_STRING)])) _
      jvm_step X1.here [X1.here.top, hx, (hb hby d1_7), X1.method', Bd.returns, Value.isRef, FieldType.isReference]
      first | (intro acts; rw [hr _ acts rfl rfl rfl]) | rw [hr _ _ rfl rfl rfl]
      exact Steps.refl _
    · show Q1 Z u0 a_STRING a_INTEGER a_LONG a_FLOAT a_DOUBLE a_BYTE a_SHORT a_CHARACTER a_BOOLEAN a_BINARY h0 n0 _ T1.heap _
      rw [e1]
      exact ⟨(by rw [hv]), N0, rfl⟩
  · by_cases hc10 : u0 = (1 : Int32)
    · obtain ⟨T2, X2, e2, st2⟩ := getS2 X0 hx hZ hown (host := "") (Or.inl (hw _ (List.mem_of_getElem? (i := 20) rfl))) Via.refl e0 S_INTEGER (g := (mkF m 13 #[.val (.int u0)] [])) rfl (hb hby d1_13)
      have hv : pickA u0 a_STRING a_INTEGER a_LONG a_FLOAT a_DOUBLE a_BYTE a_SHORT a_CHARACTER a_BOOLEAN a_BINARY = a_INTEGER := by
        unfold pickA
        simp [hc1, hc10]
      obtain ⟨fs, hr, hrun, hended, hW, hsame⟩ := X2.leave (v := some (.ref a_INTEGER)) (fun h => by rw [Bd.returns] at h; cases h)
      refine ⟨_, _, pre0 _ ?_, hrun, hended, _, _, rfl, ?_, ⟨_, rfl⟩, hW, hsame.mono (by decide) (by decide)⟩
      · show Steps p.tables e below (s₁.setTop (mkF m 0 #[.val (.int u0)] [])) _
        refine XS.iloadN X0.here hx rfl (hb hby d1_0) rfl ?_
        show Steps p.tables e below (s₁.setTop (mkF m 1 #[.val (.int u0)] [(.int u0)])) _
        refine XS.ifYes X0.here hx rfl (pc0 := 1) (pc' := 8) rfl (hb hby d1_1) rfl ((if0 _ _).trans (feq hc1).2) (by decide) (by decide) ?_
        show Steps p.tables e below (s₁.setTop (mkF m 8 #[.val (.int u0)] [])) _
        refine XS.iloadN X0.here hx rfl (hb hby d1_8) rfl ?_
        show Steps p.tables e below (s₁.setTop (mkF m 9 #[.val (.int u0)] [(.int u0)])) _
        refine XS.iconst X0.here hx rfl (hb hby d1_9) ?_
        show Steps p.tables e below (s₁.setTop (mkF m 10 #[.val (.int u0)] [(.int (1 : Int32)), (.int u0)])) _
        refine XS.icmpNo X0.here hx rfl (hb hby d1_10) rfl (teq hc10).2 ?_
        show Steps p.tables e below (s₁.setTop (mkF m 13 #[.val (.int u0)] [])) _
        refine st2 _ ?_
        show Steps p.tables e below (T2.setTop (mkF m 16 #[.val (.int u0)] [(.ref a_INTEGER)])) _
        jvm_step X2.here [X2.here.top, hx, (hb hby d1_16), X2.method', Bd.returns, Value.isRef, FieldType.isReference]
        first | (intro acts; rw [hr _ acts rfl rfl rfl]) | rw [hr _ _ rfl rfl rfl]
        exact Steps.refl _
      · show Q1 Z u0 a_STRING a_INTEGER a_LONG a_FLOAT a_DOUBLE a_BYTE a_SHORT a_CHARACTER a_BOOLEAN a_BINARY h0 n0 _ T2.heap _
        rw [e2]
        exact ⟨(by rw [hv]), N0, rfl⟩
    · by_cases hc19 : u0 = (2 : Int32)
      · obtain ⟨T3, X3, e3, st3⟩ := getS2 X0 hx hZ hown (host := "") (Or.inl (hw _ (List.mem_of_getElem? (i := 25) rfl))) Via.refl e0 S_LONG (g := (mkF m 22 #[.val (.int u0)] [])) rfl (hb hby d1_22)
        have hv : pickA u0 a_STRING a_INTEGER a_LONG a_FLOAT a_DOUBLE a_BYTE a_SHORT a_CHARACTER a_BOOLEAN a_BINARY = a_LONG := by
          unfold pickA
          simp [hc1, hc10, hc19]
        obtain ⟨fs, hr, hrun, hended, hW, hsame⟩ := X3.leave (v := some (.ref a_LONG)) (fun h => by rw [Bd.returns] at h; cases h)
        refine ⟨_, _, pre0 _ ?_, hrun, hended, _, _, rfl, ?_, ⟨_, rfl⟩, hW, hsame.mono (by decide) (by decide)⟩
        · show Steps p.tables e below (s₁.setTop (mkF m 0 #[.val (.int u0)] [])) _
          refine XS.iloadN X0.here hx rfl (hb hby d1_0) rfl ?_
          show Steps p.tables e below (s₁.setTop (mkF m 1 #[.val (.int u0)] [(.int u0)])) _
          refine XS.ifYes X0.here hx rfl (pc0 := 1) (pc' := 8) rfl (hb hby d1_1) rfl ((if0 _ _).trans (feq hc1).2) (by decide) (by decide) ?_
          show Steps p.tables e below (s₁.setTop (mkF m 8 #[.val (.int u0)] [])) _
          refine XS.iloadN X0.here hx rfl (hb hby d1_8) rfl ?_
          show Steps p.tables e below (s₁.setTop (mkF m 9 #[.val (.int u0)] [(.int u0)])) _
          refine XS.iconst X0.here hx rfl (hb hby d1_9) ?_
          show Steps p.tables e below (s₁.setTop (mkF m 10 #[.val (.int u0)] [(.int (1 : Int32)), (.int u0)])) _
          refine XS.icmpYes X0.here hx rfl (pc0 := 10) (pc' := 17) rfl (hb hby d1_10) rfl (feq hc10).2 (by decide) (by decide) ?_
          show Steps p.tables e below (s₁.setTop (mkF m 17 #[.val (.int u0)] [])) _
          refine XS.iloadN X0.here hx rfl (hb hby d1_17) rfl ?_
          show Steps p.tables e below (s₁.setTop (mkF m 18 #[.val (.int u0)] [(.int u0)])) _
          refine XS.iconst X0.here hx rfl (hb hby d1_18) ?_
          show Steps p.tables e below (s₁.setTop (mkF m 19 #[.val (.int u0)] [(.int (2 : Int32)), (.int u0)])) _
          refine XS.icmpNo X0.here hx rfl (hb hby d1_19) rfl (teq hc19).2 ?_
          show Steps p.tables e below (s₁.setTop (mkF m 22 #[.val (.int u0)] [])) _
          refine st3 _ ?_
          show Steps p.tables e below (T3.setTop (mkF m 25 #[.val (.int u0)] [(.ref a_LONG)])) _
          jvm_step X3.here [X3.here.top, hx, (hb hby d1_25), X3.method', Bd.returns, Value.isRef, FieldType.isReference]
          first | (intro acts; rw [hr _ acts rfl rfl rfl]) | rw [hr _ _ rfl rfl rfl]
          exact Steps.refl _
        · show Q1 Z u0 a_STRING a_INTEGER a_LONG a_FLOAT a_DOUBLE a_BYTE a_SHORT a_CHARACTER a_BOOLEAN a_BINARY h0 n0 _ T3.heap _
          rw [e3]
          exact ⟨(by rw [hv]), N0, rfl⟩
      · by_cases hc28 : u0 = (3 : Int32)
        · obtain ⟨T4, X4, e4, st4⟩ := getS2 X0 hx hZ hown (host := "") (Or.inl (hw _ (List.mem_of_getElem? (i := 14) rfl))) Via.refl e0 S_FLOAT (g := (mkF m 31 #[.val (.int u0)] [])) rfl (hb hby d1_31)
          have hv : pickA u0 a_STRING a_INTEGER a_LONG a_FLOAT a_DOUBLE a_BYTE a_SHORT a_CHARACTER a_BOOLEAN a_BINARY = a_FLOAT := by
            unfold pickA
            simp [hc1, hc10, hc19, hc28]
          obtain ⟨fs, hr, hrun, hended, hW, hsame⟩ := X4.leave (v := some (.ref a_FLOAT)) (fun h => by rw [Bd.returns] at h; cases h)
          refine ⟨_, _, pre0 _ ?_, hrun, hended, _, _, rfl, ?_, ⟨_, rfl⟩, hW, hsame.mono (by decide) (by decide)⟩
          · show Steps p.tables e below (s₁.setTop (mkF m 0 #[.val (.int u0)] [])) _
            refine XS.iloadN X0.here hx rfl (hb hby d1_0) rfl ?_
            show Steps p.tables e below (s₁.setTop (mkF m 1 #[.val (.int u0)] [(.int u0)])) _
            refine XS.ifYes X0.here hx rfl (pc0 := 1) (pc' := 8) rfl (hb hby d1_1) rfl ((if0 _ _).trans (feq hc1).2) (by decide) (by decide) ?_
            show Steps p.tables e below (s₁.setTop (mkF m 8 #[.val (.int u0)] [])) _
            refine XS.iloadN X0.here hx rfl (hb hby d1_8) rfl ?_
            show Steps p.tables e below (s₁.setTop (mkF m 9 #[.val (.int u0)] [(.int u0)])) _
            refine XS.iconst X0.here hx rfl (hb hby d1_9) ?_
            show Steps p.tables e below (s₁.setTop (mkF m 10 #[.val (.int u0)] [(.int (1 : Int32)), (.int u0)])) _
            refine XS.icmpYes X0.here hx rfl (pc0 := 10) (pc' := 17) rfl (hb hby d1_10) rfl (feq hc10).2 (by decide) (by decide) ?_
            show Steps p.tables e below (s₁.setTop (mkF m 17 #[.val (.int u0)] [])) _
            refine XS.iloadN X0.here hx rfl (hb hby d1_17) rfl ?_
            show Steps p.tables e below (s₁.setTop (mkF m 18 #[.val (.int u0)] [(.int u0)])) _
            refine XS.iconst X0.here hx rfl (hb hby d1_18) ?_
            show Steps p.tables e below (s₁.setTop (mkF m 19 #[.val (.int u0)] [(.int (2 : Int32)), (.int u0)])) _
            refine XS.icmpYes X0.here hx rfl (pc0 := 19) (pc' := 26) rfl (hb hby d1_19) rfl (feq hc19).2 (by decide) (by decide) ?_
            show Steps p.tables e below (s₁.setTop (mkF m 26 #[.val (.int u0)] [])) _
            refine XS.iloadN X0.here hx rfl (hb hby d1_26) rfl ?_
            show Steps p.tables e below (s₁.setTop (mkF m 27 #[.val (.int u0)] [(.int u0)])) _
            refine XS.iconst X0.here hx rfl (hb hby d1_27) ?_
            show Steps p.tables e below (s₁.setTop (mkF m 28 #[.val (.int u0)] [(.int (3 : Int32)), (.int u0)])) _
            refine XS.icmpNo X0.here hx rfl (hb hby d1_28) rfl (teq hc28).2 ?_
            show Steps p.tables e below (s₁.setTop (mkF m 31 #[.val (.int u0)] [])) _
            refine st4 _ ?_
            show Steps p.tables e below (T4.setTop (mkF m 34 #[.val (.int u0)] [(.ref a_FLOAT)])) _
            jvm_step X4.here [X4.here.top, hx, (hb hby d1_34), X4.method', Bd.returns, Value.isRef, FieldType.isReference]
            first | (intro acts; rw [hr _ acts rfl rfl rfl]) | rw [hr _ _ rfl rfl rfl]
            exact Steps.refl _
          · show Q1 Z u0 a_STRING a_INTEGER a_LONG a_FLOAT a_DOUBLE a_BYTE a_SHORT a_CHARACTER a_BOOLEAN a_BINARY h0 n0 _ T4.heap _
            rw [e4]
            exact ⟨(by rw [hv]), N0, rfl⟩
        · by_cases hc37 : u0 = (4 : Int32)
          · obtain ⟨T5, X5, e5, st5⟩ := getS2 X0 hx hZ hown (host := "") (Or.inl (hw _ (List.mem_of_getElem? (i := 22) rfl))) Via.refl e0 S_DOUBLE (g := (mkF m 40 #[.val (.int u0)] [])) rfl (hb hby d1_40)
            have hv : pickA u0 a_STRING a_INTEGER a_LONG a_FLOAT a_DOUBLE a_BYTE a_SHORT a_CHARACTER a_BOOLEAN a_BINARY = a_DOUBLE := by
              unfold pickA
              simp [hc1, hc10, hc19, hc28, hc37]
            obtain ⟨fs, hr, hrun, hended, hW, hsame⟩ := X5.leave (v := some (.ref a_DOUBLE)) (fun h => by rw [Bd.returns] at h; cases h)
            refine ⟨_, _, pre0 _ ?_, hrun, hended, _, _, rfl, ?_, ⟨_, rfl⟩, hW, hsame.mono (by decide) (by decide)⟩
            · show Steps p.tables e below (s₁.setTop (mkF m 0 #[.val (.int u0)] [])) _
              refine XS.iloadN X0.here hx rfl (hb hby d1_0) rfl ?_
              show Steps p.tables e below (s₁.setTop (mkF m 1 #[.val (.int u0)] [(.int u0)])) _
              refine XS.ifYes X0.here hx rfl (pc0 := 1) (pc' := 8) rfl (hb hby d1_1) rfl ((if0 _ _).trans (feq hc1).2) (by decide) (by decide) ?_
              show Steps p.tables e below (s₁.setTop (mkF m 8 #[.val (.int u0)] [])) _
              refine XS.iloadN X0.here hx rfl (hb hby d1_8) rfl ?_
              show Steps p.tables e below (s₁.setTop (mkF m 9 #[.val (.int u0)] [(.int u0)])) _
              refine XS.iconst X0.here hx rfl (hb hby d1_9) ?_
              show Steps p.tables e below (s₁.setTop (mkF m 10 #[.val (.int u0)] [(.int (1 : Int32)), (.int u0)])) _
              refine XS.icmpYes X0.here hx rfl (pc0 := 10) (pc' := 17) rfl (hb hby d1_10) rfl (feq hc10).2 (by decide) (by decide) ?_
              show Steps p.tables e below (s₁.setTop (mkF m 17 #[.val (.int u0)] [])) _
              refine XS.iloadN X0.here hx rfl (hb hby d1_17) rfl ?_
              show Steps p.tables e below (s₁.setTop (mkF m 18 #[.val (.int u0)] [(.int u0)])) _
              refine XS.iconst X0.here hx rfl (hb hby d1_18) ?_
              show Steps p.tables e below (s₁.setTop (mkF m 19 #[.val (.int u0)] [(.int (2 : Int32)), (.int u0)])) _
              refine XS.icmpYes X0.here hx rfl (pc0 := 19) (pc' := 26) rfl (hb hby d1_19) rfl (feq hc19).2 (by decide) (by decide) ?_
              show Steps p.tables e below (s₁.setTop (mkF m 26 #[.val (.int u0)] [])) _
              refine XS.iloadN X0.here hx rfl (hb hby d1_26) rfl ?_
              show Steps p.tables e below (s₁.setTop (mkF m 27 #[.val (.int u0)] [(.int u0)])) _
              refine XS.iconst X0.here hx rfl (hb hby d1_27) ?_
              show Steps p.tables e below (s₁.setTop (mkF m 28 #[.val (.int u0)] [(.int (3 : Int32)), (.int u0)])) _
              refine XS.icmpYes X0.here hx rfl (pc0 := 28) (pc' := 35) rfl (hb hby d1_28) rfl (feq hc28).2 (by decide) (by decide) ?_
              show Steps p.tables e below (s₁.setTop (mkF m 35 #[.val (.int u0)] [])) _
              refine XS.iloadN X0.here hx rfl (hb hby d1_35) rfl ?_
              show Steps p.tables e below (s₁.setTop (mkF m 36 #[.val (.int u0)] [(.int u0)])) _
              refine XS.iconst X0.here hx rfl (hb hby d1_36) ?_
              show Steps p.tables e below (s₁.setTop (mkF m 37 #[.val (.int u0)] [(.int (4 : Int32)), (.int u0)])) _
              refine XS.icmpNo X0.here hx rfl (hb hby d1_37) rfl (teq hc37).2 ?_
              show Steps p.tables e below (s₁.setTop (mkF m 40 #[.val (.int u0)] [])) _
              refine st5 _ ?_
              show Steps p.tables e below (T5.setTop (mkF m 43 #[.val (.int u0)] [(.ref a_DOUBLE)])) _
              jvm_step X5.here [X5.here.top, hx, (hb hby d1_43), X5.method', Bd.returns, Value.isRef, FieldType.isReference]
              first | (intro acts; rw [hr _ acts rfl rfl rfl]) | rw [hr _ _ rfl rfl rfl]
              exact Steps.refl _
            · show Q1 Z u0 a_STRING a_INTEGER a_LONG a_FLOAT a_DOUBLE a_BYTE a_SHORT a_CHARACTER a_BOOLEAN a_BINARY h0 n0 _ T5.heap _
              rw [e5]
              exact ⟨(by rw [hv]), N0, rfl⟩
          · by_cases hc46 : u0 = (5 : Int32)
            · obtain ⟨T6, X6, e6, st6⟩ := getS2 X0 hx hZ hown (host := "") (Or.inl (hw _ (List.mem_of_getElem? (i := 30) rfl))) Via.refl e0 S_BYTE (g := (mkF m 49 #[.val (.int u0)] [])) rfl (hb hby d1_49)
              have hv : pickA u0 a_STRING a_INTEGER a_LONG a_FLOAT a_DOUBLE a_BYTE a_SHORT a_CHARACTER a_BOOLEAN a_BINARY = a_BYTE := by
                unfold pickA
                simp [hc1, hc10, hc19, hc28, hc37, hc46]
              obtain ⟨fs, hr, hrun, hended, hW, hsame⟩ := X6.leave (v := some (.ref a_BYTE)) (fun h => by rw [Bd.returns] at h; cases h)
              refine ⟨_, _, pre0 _ ?_, hrun, hended, _, _, rfl, ?_, ⟨_, rfl⟩, hW, hsame.mono (by decide) (by decide)⟩
              · show Steps p.tables e below (s₁.setTop (mkF m 0 #[.val (.int u0)] [])) _
                refine XS.iloadN X0.here hx rfl (hb hby d1_0) rfl ?_
                show Steps p.tables e below (s₁.setTop (mkF m 1 #[.val (.int u0)] [(.int u0)])) _
                refine XS.ifYes X0.here hx rfl (pc0 := 1) (pc' := 8) rfl (hb hby d1_1) rfl ((if0 _ _).trans (feq hc1).2) (by decide) (by decide) ?_
                show Steps p.tables e below (s₁.setTop (mkF m 8 #[.val (.int u0)] [])) _
                refine XS.iloadN X0.here hx rfl (hb hby d1_8) rfl ?_
                show Steps p.tables e below (s₁.setTop (mkF m 9 #[.val (.int u0)] [(.int u0)])) _
                refine XS.iconst X0.here hx rfl (hb hby d1_9) ?_
                show Steps p.tables e below (s₁.setTop (mkF m 10 #[.val (.int u0)] [(.int (1 : Int32)), (.int u0)])) _
                refine XS.icmpYes X0.here hx rfl (pc0 := 10) (pc' := 17) rfl (hb hby d1_10) rfl (feq hc10).2 (by decide) (by decide) ?_
                show Steps p.tables e below (s₁.setTop (mkF m 17 #[.val (.int u0)] [])) _
                refine XS.iloadN X0.here hx rfl (hb hby d1_17) rfl ?_
                show Steps p.tables e below (s₁.setTop (mkF m 18 #[.val (.int u0)] [(.int u0)])) _
                refine XS.iconst X0.here hx rfl (hb hby d1_18) ?_
                show Steps p.tables e below (s₁.setTop (mkF m 19 #[.val (.int u0)] [(.int (2 : Int32)), (.int u0)])) _
                refine XS.icmpYes X0.here hx rfl (pc0 := 19) (pc' := 26) rfl (hb hby d1_19) rfl (feq hc19).2 (by decide) (by decide) ?_
                show Steps p.tables e below (s₁.setTop (mkF m 26 #[.val (.int u0)] [])) _
                refine XS.iloadN X0.here hx rfl (hb hby d1_26) rfl ?_
                show Steps p.tables e below (s₁.setTop (mkF m 27 #[.val (.int u0)] [(.int u0)])) _
                refine XS.iconst X0.here hx rfl (hb hby d1_27) ?_
                show Steps p.tables e below (s₁.setTop (mkF m 28 #[.val (.int u0)] [(.int (3 : Int32)), (.int u0)])) _
                refine XS.icmpYes X0.here hx rfl (pc0 := 28) (pc' := 35) rfl (hb hby d1_28) rfl (feq hc28).2 (by decide) (by decide) ?_
                show Steps p.tables e below (s₁.setTop (mkF m 35 #[.val (.int u0)] [])) _
                refine XS.iloadN X0.here hx rfl (hb hby d1_35) rfl ?_
                show Steps p.tables e below (s₁.setTop (mkF m 36 #[.val (.int u0)] [(.int u0)])) _
                refine XS.iconst X0.here hx rfl (hb hby d1_36) ?_
                show Steps p.tables e below (s₁.setTop (mkF m 37 #[.val (.int u0)] [(.int (4 : Int32)), (.int u0)])) _
                refine XS.icmpYes X0.here hx rfl (pc0 := 37) (pc' := 44) rfl (hb hby d1_37) rfl (feq hc37).2 (by decide) (by decide) ?_
                show Steps p.tables e below (s₁.setTop (mkF m 44 #[.val (.int u0)] [])) _
                refine XS.iloadN X0.here hx rfl (hb hby d1_44) rfl ?_
                show Steps p.tables e below (s₁.setTop (mkF m 45 #[.val (.int u0)] [(.int u0)])) _
                refine XS.iconst X0.here hx rfl (hb hby d1_45) ?_
                show Steps p.tables e below (s₁.setTop (mkF m 46 #[.val (.int u0)] [(.int (5 : Int32)), (.int u0)])) _
                refine XS.icmpNo X0.here hx rfl (hb hby d1_46) rfl (teq hc46).2 ?_
                show Steps p.tables e below (s₁.setTop (mkF m 49 #[.val (.int u0)] [])) _
                refine st6 _ ?_
                show Steps p.tables e below (T6.setTop (mkF m 52 #[.val (.int u0)] [(.ref a_BYTE)])) _
                jvm_step X6.here [X6.here.top, hx, (hb hby d1_52), X6.method', Bd.returns, Value.isRef, FieldType.isReference]
                first | (intro acts; rw [hr _ acts rfl rfl rfl]) | rw [hr _ _ rfl rfl rfl]
                exact Steps.refl _
              · show Q1 Z u0 a_STRING a_INTEGER a_LONG a_FLOAT a_DOUBLE a_BYTE a_SHORT a_CHARACTER a_BOOLEAN a_BINARY h0 n0 _ T6.heap _
                rw [e6]
                exact ⟨(by rw [hv]), N0, rfl⟩
            · by_cases hc56 : u0 = (6 : Int32)
              · obtain ⟨T7, X7, e7, st7⟩ := getS2 X0 hx hZ hown (host := "") (Or.inl (hw _ (List.mem_of_getElem? (i := 32) rfl))) Via.refl e0 S_SHORT (g := (mkF m 59 #[.val (.int u0)] [])) rfl (hb hby d1_59)
                have hv : pickA u0 a_STRING a_INTEGER a_LONG a_FLOAT a_DOUBLE a_BYTE a_SHORT a_CHARACTER a_BOOLEAN a_BINARY = a_SHORT := by
                  unfold pickA
                  simp [hc1, hc10, hc19, hc28, hc37, hc46, hc56]
                obtain ⟨fs, hr, hrun, hended, hW, hsame⟩ := X7.leave (v := some (.ref a_SHORT)) (fun h => by rw [Bd.returns] at h; cases h)
                refine ⟨_, _, pre0 _ ?_, hrun, hended, _, _, rfl, ?_, ⟨_, rfl⟩, hW, hsame.mono (by decide) (by decide)⟩
                · show Steps p.tables e below (s₁.setTop (mkF m 0 #[.val (.int u0)] [])) _
                  refine XS.iloadN X0.here hx rfl (hb hby d1_0) rfl ?_
                  show Steps p.tables e below (s₁.setTop (mkF m 1 #[.val (.int u0)] [(.int u0)])) _
                  refine XS.ifYes X0.here hx rfl (pc0 := 1) (pc' := 8) rfl (hb hby d1_1) rfl ((if0 _ _).trans (feq hc1).2) (by decide) (by decide) ?_
                  show Steps p.tables e below (s₁.setTop (mkF m 8 #[.val (.int u0)] [])) _
                  refine XS.iloadN X0.here hx rfl (hb hby d1_8) rfl ?_
                  show Steps p.tables e below (s₁.setTop (mkF m 9 #[.val (.int u0)] [(.int u0)])) _
                  refine XS.iconst X0.here hx rfl (hb hby d1_9) ?_
                  show Steps p.tables e below (s₁.setTop (mkF m 10 #[.val (.int u0)] [(.int (1 : Int32)), (.int u0)])) _
                  refine XS.icmpYes X0.here hx rfl (pc0 := 10) (pc' := 17) rfl (hb hby d1_10) rfl (feq hc10).2 (by decide) (by decide) ?_
                  show Steps p.tables e below (s₁.setTop (mkF m 17 #[.val (.int u0)] [])) _
                  refine XS.iloadN X0.here hx rfl (hb hby d1_17) rfl ?_
                  show Steps p.tables e below (s₁.setTop (mkF m 18 #[.val (.int u0)] [(.int u0)])) _
                  refine XS.iconst X0.here hx rfl (hb hby d1_18) ?_
                  show Steps p.tables e below (s₁.setTop (mkF m 19 #[.val (.int u0)] [(.int (2 : Int32)), (.int u0)])) _
                  refine XS.icmpYes X0.here hx rfl (pc0 := 19) (pc' := 26) rfl (hb hby d1_19) rfl (feq hc19).2 (by decide) (by decide) ?_
                  show Steps p.tables e below (s₁.setTop (mkF m 26 #[.val (.int u0)] [])) _
                  refine XS.iloadN X0.here hx rfl (hb hby d1_26) rfl ?_
                  show Steps p.tables e below (s₁.setTop (mkF m 27 #[.val (.int u0)] [(.int u0)])) _
                  refine XS.iconst X0.here hx rfl (hb hby d1_27) ?_
                  show Steps p.tables e below (s₁.setTop (mkF m 28 #[.val (.int u0)] [(.int (3 : Int32)), (.int u0)])) _
                  refine XS.icmpYes X0.here hx rfl (pc0 := 28) (pc' := 35) rfl (hb hby d1_28) rfl (feq hc28).2 (by decide) (by decide) ?_
                  show Steps p.tables e below (s₁.setTop (mkF m 35 #[.val (.int u0)] [])) _
                  refine XS.iloadN X0.here hx rfl (hb hby d1_35) rfl ?_
                  show Steps p.tables e below (s₁.setTop (mkF m 36 #[.val (.int u0)] [(.int u0)])) _
                  refine XS.iconst X0.here hx rfl (hb hby d1_36) ?_
                  show Steps p.tables e below (s₁.setTop (mkF m 37 #[.val (.int u0)] [(.int (4 : Int32)), (.int u0)])) _
                  refine XS.icmpYes X0.here hx rfl (pc0 := 37) (pc' := 44) rfl (hb hby d1_37) rfl (feq hc37).2 (by decide) (by decide) ?_
                  show Steps p.tables e below (s₁.setTop (mkF m 44 #[.val (.int u0)] [])) _
                  refine XS.iloadN X0.here hx rfl (hb hby d1_44) rfl ?_
                  show Steps p.tables e below (s₁.setTop (mkF m 45 #[.val (.int u0)] [(.int u0)])) _
                  refine XS.iconst X0.here hx rfl (hb hby d1_45) ?_
                  show Steps p.tables e below (s₁.setTop (mkF m 46 #[.val (.int u0)] [(.int (5 : Int32)), (.int u0)])) _
                  refine XS.icmpYes X0.here hx rfl (pc0 := 46) (pc' := 53) rfl (hb hby d1_46) rfl (feq hc46).2 (by decide) (by decide) ?_
                  show Steps p.tables e below (s₁.setTop (mkF m 53 #[.val (.int u0)] [])) _
                  refine XS.iloadN X0.here hx rfl (hb hby d1_53) rfl ?_
                  show Steps p.tables e below (s₁.setTop (mkF m 54 #[.val (.int u0)] [(.int u0)])) _
                  refine XS.bipush X0.here hx rfl (hb hby d1_54) ?_
                  show Steps p.tables e below (s₁.setTop (mkF m 56 #[.val (.int u0)] [(.int (6 : Int32)), (.int u0)])) _
                  refine XS.icmpNo X0.here hx rfl (hb hby d1_56) rfl (teq hc56).2 ?_
                  show Steps p.tables e below (s₁.setTop (mkF m 59 #[.val (.int u0)] [])) _
                  refine st7 _ ?_
                  show Steps p.tables e below (T7.setTop (mkF m 62 #[.val (.int u0)] [(.ref a_SHORT)])) _
                  jvm_step X7.here [X7.here.top, hx, (hb hby d1_62), X7.method', Bd.returns, Value.isRef, FieldType.isReference]
                  first | (intro acts; rw [hr _ acts rfl rfl rfl]) | rw [hr _ _ rfl rfl rfl]
                  exact Steps.refl _
                · show Q1 Z u0 a_STRING a_INTEGER a_LONG a_FLOAT a_DOUBLE a_BYTE a_SHORT a_CHARACTER a_BOOLEAN a_BINARY h0 n0 _ T7.heap _
                  rw [e7]
                  exact ⟨(by rw [hv]), N0, rfl⟩
              · by_cases hc66 : u0 = (7 : Int32)
                · obtain ⟨T8, X8, e8, st8⟩ := getS2 X0 hx hZ hown (host := "") (Or.inl (hw _ (List.mem_of_getElem? (i := 24) rfl))) Via.refl e0 S_CHARACTER (g := (mkF m 69 #[.val (.int u0)] [])) rfl (hb hby d1_69)
                  have hv : pickA u0 a_STRING a_INTEGER a_LONG a_FLOAT a_DOUBLE a_BYTE a_SHORT a_CHARACTER a_BOOLEAN a_BINARY = a_CHARACTER := by
                    unfold pickA
                    simp [hc1, hc10, hc19, hc28, hc37, hc46, hc56, hc66]
                  obtain ⟨fs, hr, hrun, hended, hW, hsame⟩ := X8.leave (v := some (.ref a_CHARACTER)) (fun h => by rw [Bd.returns] at h; cases h)
                  refine ⟨_, _, pre0 _ ?_, hrun, hended, _, _, rfl, ?_, ⟨_, rfl⟩, hW, hsame.mono (by decide) (by decide)⟩
                  · show Steps p.tables e below (s₁.setTop (mkF m 0 #[.val (.int u0)] [])) _
                    refine XS.iloadN X0.here hx rfl (hb hby d1_0) rfl ?_
                    show Steps p.tables e below (s₁.setTop (mkF m 1 #[.val (.int u0)] [(.int u0)])) _
                    refine XS.ifYes X0.here hx rfl (pc0 := 1) (pc' := 8) rfl (hb hby d1_1) rfl ((if0 _ _).trans (feq hc1).2) (by decide) (by decide) ?_
                    show Steps p.tables e below (s₁.setTop (mkF m 8 #[.val (.int u0)] [])) _
                    refine XS.iloadN X0.here hx rfl (hb hby d1_8) rfl ?_
                    show Steps p.tables e below (s₁.setTop (mkF m 9 #[.val (.int u0)] [(.int u0)])) _
                    refine XS.iconst X0.here hx rfl (hb hby d1_9) ?_
                    show Steps p.tables e below (s₁.setTop (mkF m 10 #[.val (.int u0)] [(.int (1 : Int32)), (.int u0)])) _
                    refine XS.icmpYes X0.here hx rfl (pc0 := 10) (pc' := 17) rfl (hb hby d1_10) rfl (feq hc10).2 (by decide) (by decide) ?_
                    show Steps p.tables e below (s₁.setTop (mkF m 17 #[.val (.int u0)] [])) _
                    refine XS.iloadN X0.here hx rfl (hb hby d1_17) rfl ?_
                    show Steps p.tables e below (s₁.setTop (mkF m 18 #[.val (.int u0)] [(.int u0)])) _
                    refine XS.iconst X0.here hx rfl (hb hby d1_18) ?_
                    show Steps p.tables e below (s₁.setTop (mkF m 19 #[.val (.int u0)] [(.int (2 : Int32)), (.int u0)])) _
                    refine XS.icmpYes X0.here hx rfl (pc0 := 19) (pc' := 26) rfl (hb hby d1_19) rfl (feq hc19).2 (by decide) (by decide) ?_
                    show Steps p.tables e below (s₁.setTop (mkF m 26 #[.val (.int u0)] [])) _
                    refine XS.iloadN X0.here hx rfl (hb hby d1_26) rfl ?_
                    show Steps p.tables e below (s₁.setTop (mkF m 27 #[.val (.int u0)] [(.int u0)])) _
                    refine XS.iconst X0.here hx rfl (hb hby d1_27) ?_
                    show Steps p.tables e below (s₁.setTop (mkF m 28 #[.val (.int u0)] [(.int (3 : Int32)), (.int u0)])) _
                    refine XS.icmpYes X0.here hx rfl (pc0 := 28) (pc' := 35) rfl (hb hby d1_28) rfl (feq hc28).2 (by decide) (by decide) ?_
                    show Steps p.tables e below (s₁.setTop (mkF m 35 #[.val (.int u0)] [])) _
                    refine XS.iloadN X0.here hx rfl (hb hby d1_35) rfl ?_
                    show Steps p.tables e below (s₁.setTop (mkF m 36 #[.val (.int u0)] [(.int u0)])) _
                    refine XS.iconst X0.here hx rfl (hb hby d1_36) ?_
                    show Steps p.tables e below (s₁.setTop (mkF m 37 #[.val (.int u0)] [(.int (4 : Int32)), (.int u0)])) _
                    refine XS.icmpYes X0.here hx rfl (pc0 := 37) (pc' := 44) rfl (hb hby d1_37) rfl (feq hc37).2 (by decide) (by decide) ?_
                    show Steps p.tables e below (s₁.setTop (mkF m 44 #[.val (.int u0)] [])) _
                    refine XS.iloadN X0.here hx rfl (hb hby d1_44) rfl ?_
                    show Steps p.tables e below (s₁.setTop (mkF m 45 #[.val (.int u0)] [(.int u0)])) _
                    refine XS.iconst X0.here hx rfl (hb hby d1_45) ?_
                    show Steps p.tables e below (s₁.setTop (mkF m 46 #[.val (.int u0)] [(.int (5 : Int32)), (.int u0)])) _
                    refine XS.icmpYes X0.here hx rfl (pc0 := 46) (pc' := 53) rfl (hb hby d1_46) rfl (feq hc46).2 (by decide) (by decide) ?_
                    show Steps p.tables e below (s₁.setTop (mkF m 53 #[.val (.int u0)] [])) _
                    refine XS.iloadN X0.here hx rfl (hb hby d1_53) rfl ?_
                    show Steps p.tables e below (s₁.setTop (mkF m 54 #[.val (.int u0)] [(.int u0)])) _
                    refine XS.bipush X0.here hx rfl (hb hby d1_54) ?_
                    show Steps p.tables e below (s₁.setTop (mkF m 56 #[.val (.int u0)] [(.int (6 : Int32)), (.int u0)])) _
                    refine XS.icmpYes X0.here hx rfl (pc0 := 56) (pc' := 63) rfl (hb hby d1_56) rfl (feq hc56).2 (by decide) (by decide) ?_
                    show Steps p.tables e below (s₁.setTop (mkF m 63 #[.val (.int u0)] [])) _
                    refine XS.iloadN X0.here hx rfl (hb hby d1_63) rfl ?_
                    show Steps p.tables e below (s₁.setTop (mkF m 64 #[.val (.int u0)] [(.int u0)])) _
                    refine XS.bipush X0.here hx rfl (hb hby d1_64) ?_
                    show Steps p.tables e below (s₁.setTop (mkF m 66 #[.val (.int u0)] [(.int (7 : Int32)), (.int u0)])) _
                    refine XS.icmpNo X0.here hx rfl (hb hby d1_66) rfl (teq hc66).2 ?_
                    show Steps p.tables e below (s₁.setTop (mkF m 69 #[.val (.int u0)] [])) _
                    refine st8 _ ?_
                    show Steps p.tables e below (T8.setTop (mkF m 72 #[.val (.int u0)] [(.ref a_CHARACTER)])) _
                    jvm_step X8.here [X8.here.top, hx, (hb hby d1_72), X8.method', Bd.returns, Value.isRef, FieldType.isReference]
                    first | (intro acts; rw [hr _ acts rfl rfl rfl]) | rw [hr _ _ rfl rfl rfl]
                    exact Steps.refl _
                  · show Q1 Z u0 a_STRING a_INTEGER a_LONG a_FLOAT a_DOUBLE a_BYTE a_SHORT a_CHARACTER a_BOOLEAN a_BINARY h0 n0 _ T8.heap _
                    rw [e8]
                    exact ⟨(by rw [hv]), N0, rfl⟩
                · by_cases hc76 : u0 = (8 : Int32)
                  · obtain ⟨T9, X9, e9, st9⟩ := getS2 X0 hx hZ hown (host := "") (Or.inl (hw _ (List.mem_of_getElem? (i := 27) rfl))) Via.refl e0 S_BOOLEAN (g := (mkF m 79 #[.val (.int u0)] [])) rfl (hb hby d1_79)
                    have hv : pickA u0 a_STRING a_INTEGER a_LONG a_FLOAT a_DOUBLE a_BYTE a_SHORT a_CHARACTER a_BOOLEAN a_BINARY = a_BOOLEAN := by
                      unfold pickA
                      simp [hc1, hc10, hc19, hc28, hc37, hc46, hc56, hc66, hc76]
                    obtain ⟨fs, hr, hrun, hended, hW, hsame⟩ := X9.leave (v := some (.ref a_BOOLEAN)) (fun h => by rw [Bd.returns] at h; cases h)
                    refine ⟨_, _, pre0 _ ?_, hrun, hended, _, _, rfl, ?_, ⟨_, rfl⟩, hW, hsame.mono (by decide) (by decide)⟩
                    · show Steps p.tables e below (s₁.setTop (mkF m 0 #[.val (.int u0)] [])) _
                      refine XS.iloadN X0.here hx rfl (hb hby d1_0) rfl ?_
                      show Steps p.tables e below (s₁.setTop (mkF m 1 #[.val (.int u0)] [(.int u0)])) _
                      refine XS.ifYes X0.here hx rfl (pc0 := 1) (pc' := 8) rfl (hb hby d1_1) rfl ((if0 _ _).trans (feq hc1).2) (by decide) (by decide) ?_
                      show Steps p.tables e below (s₁.setTop (mkF m 8 #[.val (.int u0)] [])) _
                      refine XS.iloadN X0.here hx rfl (hb hby d1_8) rfl ?_
                      show Steps p.tables e below (s₁.setTop (mkF m 9 #[.val (.int u0)] [(.int u0)])) _
                      refine XS.iconst X0.here hx rfl (hb hby d1_9) ?_
                      show Steps p.tables e below (s₁.setTop (mkF m 10 #[.val (.int u0)] [(.int (1 : Int32)), (.int u0)])) _
                      refine XS.icmpYes X0.here hx rfl (pc0 := 10) (pc' := 17) rfl (hb hby d1_10) rfl (feq hc10).2 (by decide) (by decide) ?_
                      show Steps p.tables e below (s₁.setTop (mkF m 17 #[.val (.int u0)] [])) _
                      refine XS.iloadN X0.here hx rfl (hb hby d1_17) rfl ?_
                      show Steps p.tables e below (s₁.setTop (mkF m 18 #[.val (.int u0)] [(.int u0)])) _
                      refine XS.iconst X0.here hx rfl (hb hby d1_18) ?_
                      show Steps p.tables e below (s₁.setTop (mkF m 19 #[.val (.int u0)] [(.int (2 : Int32)), (.int u0)])) _
                      refine XS.icmpYes X0.here hx rfl (pc0 := 19) (pc' := 26) rfl (hb hby d1_19) rfl (feq hc19).2 (by decide) (by decide) ?_
                      show Steps p.tables e below (s₁.setTop (mkF m 26 #[.val (.int u0)] [])) _
                      refine XS.iloadN X0.here hx rfl (hb hby d1_26) rfl ?_
                      show Steps p.tables e below (s₁.setTop (mkF m 27 #[.val (.int u0)] [(.int u0)])) _
                      refine XS.iconst X0.here hx rfl (hb hby d1_27) ?_
                      show Steps p.tables e below (s₁.setTop (mkF m 28 #[.val (.int u0)] [(.int (3 : Int32)), (.int u0)])) _
                      refine XS.icmpYes X0.here hx rfl (pc0 := 28) (pc' := 35) rfl (hb hby d1_28) rfl (feq hc28).2 (by decide) (by decide) ?_
                      show Steps p.tables e below (s₁.setTop (mkF m 35 #[.val (.int u0)] [])) _
                      refine XS.iloadN X0.here hx rfl (hb hby d1_35) rfl ?_
                      show Steps p.tables e below (s₁.setTop (mkF m 36 #[.val (.int u0)] [(.int u0)])) _
                      refine XS.iconst X0.here hx rfl (hb hby d1_36) ?_
                      show Steps p.tables e below (s₁.setTop (mkF m 37 #[.val (.int u0)] [(.int (4 : Int32)), (.int u0)])) _
                      refine XS.icmpYes X0.here hx rfl (pc0 := 37) (pc' := 44) rfl (hb hby d1_37) rfl (feq hc37).2 (by decide) (by decide) ?_
                      show Steps p.tables e below (s₁.setTop (mkF m 44 #[.val (.int u0)] [])) _
                      refine XS.iloadN X0.here hx rfl (hb hby d1_44) rfl ?_
                      show Steps p.tables e below (s₁.setTop (mkF m 45 #[.val (.int u0)] [(.int u0)])) _
                      refine XS.iconst X0.here hx rfl (hb hby d1_45) ?_
                      show Steps p.tables e below (s₁.setTop (mkF m 46 #[.val (.int u0)] [(.int (5 : Int32)), (.int u0)])) _
                      refine XS.icmpYes X0.here hx rfl (pc0 := 46) (pc' := 53) rfl (hb hby d1_46) rfl (feq hc46).2 (by decide) (by decide) ?_
                      show Steps p.tables e below (s₁.setTop (mkF m 53 #[.val (.int u0)] [])) _
                      refine XS.iloadN X0.here hx rfl (hb hby d1_53) rfl ?_
                      show Steps p.tables e below (s₁.setTop (mkF m 54 #[.val (.int u0)] [(.int u0)])) _
                      refine XS.bipush X0.here hx rfl (hb hby d1_54) ?_
                      show Steps p.tables e below (s₁.setTop (mkF m 56 #[.val (.int u0)] [(.int (6 : Int32)), (.int u0)])) _
                      refine XS.icmpYes X0.here hx rfl (pc0 := 56) (pc' := 63) rfl (hb hby d1_56) rfl (feq hc56).2 (by decide) (by decide) ?_
                      show Steps p.tables e below (s₁.setTop (mkF m 63 #[.val (.int u0)] [])) _
                      refine XS.iloadN X0.here hx rfl (hb hby d1_63) rfl ?_
                      show Steps p.tables e below (s₁.setTop (mkF m 64 #[.val (.int u0)] [(.int u0)])) _
                      refine XS.bipush X0.here hx rfl (hb hby d1_64) ?_
                      show Steps p.tables e below (s₁.setTop (mkF m 66 #[.val (.int u0)] [(.int (7 : Int32)), (.int u0)])) _
                      refine XS.icmpYes X0.here hx rfl (pc0 := 66) (pc' := 73) rfl (hb hby d1_66) rfl (feq hc66).2 (by decide) (by decide) ?_
                      show Steps p.tables e below (s₁.setTop (mkF m 73 #[.val (.int u0)] [])) _
                      refine XS.iloadN X0.here hx rfl (hb hby d1_73) rfl ?_
                      show Steps p.tables e below (s₁.setTop (mkF m 74 #[.val (.int u0)] [(.int u0)])) _
                      refine XS.bipush X0.here hx rfl (hb hby d1_74) ?_
                      show Steps p.tables e below (s₁.setTop (mkF m 76 #[.val (.int u0)] [(.int (8 : Int32)), (.int u0)])) _
                      refine XS.icmpNo X0.here hx rfl (hb hby d1_76) rfl (teq hc76).2 ?_
                      show Steps p.tables e below (s₁.setTop (mkF m 79 #[.val (.int u0)] [])) _
                      refine st9 _ ?_
                      show Steps p.tables e below (T9.setTop (mkF m 82 #[.val (.int u0)] [(.ref a_BOOLEAN)])) _
                      jvm_step X9.here [X9.here.top, hx, (hb hby d1_82), X9.method', Bd.returns, Value.isRef, FieldType.isReference]
                      first | (intro acts; rw [hr _ acts rfl rfl rfl]) | rw [hr _ _ rfl rfl rfl]
                      exact Steps.refl _
                    · show Q1 Z u0 a_STRING a_INTEGER a_LONG a_FLOAT a_DOUBLE a_BYTE a_SHORT a_CHARACTER a_BOOLEAN a_BINARY h0 n0 _ T9.heap _
                      rw [e9]
                      exact ⟨(by rw [hv]), N0, rfl⟩
                  · obtain ⟨T10, X10, e10, st10⟩ := getS2 X0 hx hZ hown (host := "") (Or.inl (hw _ (List.mem_of_getElem? (i := 29) rfl))) Via.refl e0 S_BINARY (g := (mkF m 83 #[.val (.int u0)] [])) rfl (hb hby d1_83)
                    have hv : pickA u0 a_STRING a_INTEGER a_LONG a_FLOAT a_DOUBLE a_BYTE a_SHORT a_CHARACTER a_BOOLEAN a_BINARY = a_BINARY := by
                      unfold pickA
                      simp [hc1, hc10, hc19, hc28, hc37, hc46, hc56, hc66, hc76]
                    obtain ⟨fs, hr, hrun, hended, hW, hsame⟩ := X10.leave (v := some (.ref a_BINARY)) (fun h => by rw [Bd.returns] at h; cases h)
                    refine ⟨_, _, pre0 _ ?_, hrun, hended, _, _, rfl, ?_, ⟨_, rfl⟩, hW, hsame.mono (by decide) (by decide)⟩
                    · show Steps p.tables e below (s₁.setTop (mkF m 0 #[.val (.int u0)] [])) _
                      refine XS.iloadN X0.here hx rfl (hb hby d1_0) rfl ?_
                      show Steps p.tables e below (s₁.setTop (mkF m 1 #[.val (.int u0)] [(.int u0)])) _
                      refine XS.ifYes X0.here hx rfl (pc0 := 1) (pc' := 8) rfl (hb hby d1_1) rfl ((if0 _ _).trans (feq hc1).2) (by decide) (by decide) ?_
                      show Steps p.tables e below (s₁.setTop (mkF m 8 #[.val (.int u0)] [])) _
                      refine XS.iloadN X0.here hx rfl (hb hby d1_8) rfl ?_
                      show Steps p.tables e below (s₁.setTop (mkF m 9 #[.val (.int u0)] [(.int u0)])) _
                      refine XS.iconst X0.here hx rfl (hb hby d1_9) ?_
                      show Steps p.tables e below (s₁.setTop (mkF m 10 #[.val (.int u0)] [(.int (1 : Int32)), (.int u0)])) _
                      refine XS.icmpYes X0.here hx rfl (pc0 := 10) (pc' := 17) rfl (hb hby d1_10) rfl (feq hc10).2 (by decide) (by decide) ?_
                      show Steps p.tables e below (s₁.setTop (mkF m 17 #[.val (.int u0)] [])) _
                      refine XS.iloadN X0.here hx rfl (hb hby d1_17) rfl ?_
                      show Steps p.tables e below (s₁.setTop (mkF m 18 #[.val (.int u0)] [(.int u0)])) _
                      refine XS.iconst X0.here hx rfl (hb hby d1_18) ?_
                      show Steps p.tables e below (s₁.setTop (mkF m 19 #[.val (.int u0)] [(.int (2 : Int32)), (.int u0)])) _
                      refine XS.icmpYes X0.here hx rfl (pc0 := 19) (pc' := 26) rfl (hb hby d1_19) rfl (feq hc19).2 (by decide) (by decide) ?_
                      show Steps p.tables e below (s₁.setTop (mkF m 26 #[.val (.int u0)] [])) _
                      refine XS.iloadN X0.here hx rfl (hb hby d1_26) rfl ?_
                      show Steps p.tables e below (s₁.setTop (mkF m 27 #[.val (.int u0)] [(.int u0)])) _
                      refine XS.iconst X0.here hx rfl (hb hby d1_27) ?_
                      show Steps p.tables e below (s₁.setTop (mkF m 28 #[.val (.int u0)] [(.int (3 : Int32)), (.int u0)])) _
                      refine XS.icmpYes X0.here hx rfl (pc0 := 28) (pc' := 35) rfl (hb hby d1_28) rfl (feq hc28).2 (by decide) (by decide) ?_
                      show Steps p.tables e below (s₁.setTop (mkF m 35 #[.val (.int u0)] [])) _
                      refine XS.iloadN X0.here hx rfl (hb hby d1_35) rfl ?_
                      show Steps p.tables e below (s₁.setTop (mkF m 36 #[.val (.int u0)] [(.int u0)])) _
                      refine XS.iconst X0.here hx rfl (hb hby d1_36) ?_
                      show Steps p.tables e below (s₁.setTop (mkF m 37 #[.val (.int u0)] [(.int (4 : Int32)), (.int u0)])) _
                      refine XS.icmpYes X0.here hx rfl (pc0 := 37) (pc' := 44) rfl (hb hby d1_37) rfl (feq hc37).2 (by decide) (by decide) ?_
                      show Steps p.tables e below (s₁.setTop (mkF m 44 #[.val (.int u0)] [])) _
                      refine XS.iloadN X0.here hx rfl (hb hby d1_44) rfl ?_
                      show Steps p.tables e below (s₁.setTop (mkF m 45 #[.val (.int u0)] [(.int u0)])) _
                      refine XS.iconst X0.here hx rfl (hb hby d1_45) ?_
                      show Steps p.tables e below (s₁.setTop (mkF m 46 #[.val (.int u0)] [(.int (5 : Int32)), (.int u0)])) _
                      refine XS.icmpYes X0.here hx rfl (pc0 := 46) (pc' := 53) rfl (hb hby d1_46) rfl (feq hc46).2 (by decide) (by decide) ?_
                      show Steps p.tables e below (s₁.setTop (mkF m 53 #[.val (.int u0)] [])) _
                      refine XS.iloadN X0.here hx rfl (hb hby d1_53) rfl ?_
                      show Steps p.tables e below (s₁.setTop (mkF m 54 #[.val (.int u0)] [(.int u0)])) _
                      refine XS.bipush X0.here hx rfl (hb hby d1_54) ?_
                      show Steps p.tables e below (s₁.setTop (mkF m 56 #[.val (.int u0)] [(.int (6 : Int32)), (.int u0)])) _
                      refine XS.icmpYes X0.here hx rfl (pc0 := 56) (pc' := 63) rfl (hb hby d1_56) rfl (feq hc56).2 (by decide) (by decide) ?_
                      show Steps p.tables e below (s₁.setTop (mkF m 63 #[.val (.int u0)] [])) _
                      refine XS.iloadN X0.here hx rfl (hb hby d1_63) rfl ?_
                      show Steps p.tables e below (s₁.setTop (mkF m 64 #[.val (.int u0)] [(.int u0)])) _
                      refine XS.bipush X0.here hx rfl (hb hby d1_64) ?_
                      show Steps p.tables e below (s₁.setTop (mkF m 66 #[.val (.int u0)] [(.int (7 : Int32)), (.int u0)])) _
                      refine XS.icmpYes X0.here hx rfl (pc0 := 66) (pc' := 73) rfl (hb hby d1_66) rfl (feq hc66).2 (by decide) (by decide) ?_
                      show Steps p.tables e below (s₁.setTop (mkF m 73 #[.val (.int u0)] [])) _
                      refine XS.iloadN X0.here hx rfl (hb hby d1_73) rfl ?_
                      show Steps p.tables e below (s₁.setTop (mkF m 74 #[.val (.int u0)] [(.int u0)])) _
                      refine XS.bipush X0.here hx rfl (hb hby d1_74) ?_
                      show Steps p.tables e below (s₁.setTop (mkF m 76 #[.val (.int u0)] [(.int (8 : Int32)), (.int u0)])) _
                      refine XS.icmpYes X0.here hx rfl (pc0 := 76) (pc' := 83) rfl (hb hby d1_76) rfl (feq hc76).2 (by decide) (by decide) ?_
                      show Steps p.tables e below (s₁.setTop (mkF m 83 #[.val (.int u0)] [])) _
                      refine st10 _ ?_
                      show Steps p.tables e below (T10.setTop (mkF m 86 #[.val (.int u0)] [(.ref a_BINARY)])) _
                      jvm_step X10.here [X10.here.top, hx, (hb hby d1_86), X10.method', Bd.returns, Value.isRef, FieldType.isReference]
                      first | (intro acts; rw [hr _ acts rfl rfl rfl]) | rw [hr _ _ rfl rfl rfl]
                      exact Steps.refl _
                    · show Q1 Z u0 a_STRING a_INTEGER a_LONG a_FLOAT a_DOUBLE a_BYTE a_SHORT a_CHARACTER a_BOOLEAN a_BINARY h0 n0 _ T10.heap _
                      rw [e10]
                      exact ⟨(by rw [hv]), N0, rfl⟩
theorem d2_0 : decode prog_38_method_10_code 0 = .ok (.aload_n 0, 1) := by decide +kernel
theorem d2_1 : decode prog_38_method_10_code 1 = .ok (.getstatic 3, 3) := by decide +kernel
theorem d2_4 : decode prog_38_method_10_code 4 = .ok (.if_acmp .eq 17, 3) := by decide +kernel
theorem d2_7 : decode prog_38_method_10_code 7 = .ok (.aload_n 0, 1) := by decide +kernel
theorem d2_8 : decode prog_38_method_10_code 8 = .ok (.getstatic 25, 3) := by decide +kernel
theorem d2_11 : decode prog_38_method_10_code 11 = .ok (.if_acmp .eq 10, 3) := by decide +kernel
theorem d2_14 : decode prog_38_method_10_code 14 = .ok (.aload_n 0, 1) := by decide +kernel
theorem d2_15 : decode prog_38_method_10_code 15 = .ok (.getstatic 31, 3) := by decide +kernel
theorem d2_18 : decode prog_38_method_10_code 18 = .ok (.if_acmp .ne 7, 3) := by decide +kernel
theorem d2_21 : decode prog_38_method_10_code 21 = .ok (.iconst 1, 1) := by decide +kernel
theorem d2_22 : decode prog_38_method_10_code 22 = .ok (.goto 4, 3) := by decide +kernel
theorem d2_25 : decode prog_38_method_10_code 25 = .ok (.iconst 0, 1) := by decide +kernel
theorem d2_26 : decode prog_38_method_10_code 26 = .ok (.ireturn, 1) := by decide +kernel
theorem pn_com_example_compact_settings_compactsettings_ScalarType : plainName "com/example/compact_settings/compactsettings/ScalarType" = true := by first | (simp [plainName, overriddenIn]; done) | decide +kernel
theorem ef_2 (m : MethodId) (u0 : Addr) : entryFrame m #[(.ref u0)] 1 = mkF m 0 #[.val (.ref u0)] [] := by first | (simp [entryFrame, mkF, argsToLocals, Value.category]; done) | rfl
def Q2 (Z : State) (u0 : Addr) (a_STRING : Addr) (a_CHARACTER : Addr) (a_BINARY : Addr) (h0 : Heap) (n0 : Nat) (v : Option Value) (h : Heap) (L : List Loc) : Prop := v = some (.int (textOf u0 a_STRING a_CHARACTER a_BINARY)) ∧ Fr n0 L ∧ h = h0
set_option maxRecDepth 65536 in
set_option maxHeartbeats 40000000 in
theorem rm2 (l : Launch) (Z : State) (a0 : Array Value) (hw : ∀ d ∈ tables_1, d.before a0 Z = true) (ws : List Jvm.Cond) (u0 : Addr) (a_STRING : Addr) (a_CHARACTER : Addr) (a_BINARY : Addr) (h0 : Heap) (n0 : Nat) (Z0 : n0 ≤ h0.size) (S_STRING : Sta Z h0 "com/example/compact_settings/compactsettings/ScalarType" "STRING" "Lcom/example/compact_settings/compactsettings/ScalarType;" (.ref a_STRING)) (S_CHARACTER : Sta Z h0 "com/example/compact_settings/compactsettings/ScalarType" "CHARACTER" "Lcom/example/compact_settings/compactsettings/ScalarType;" (.ref a_CHARACTER)) (S_BINARY : Sta Z h0 "com/example/compact_settings/compactsettings/ScalarType" "BINARY" "Lcom/example/compact_settings/compactsettings/ScalarType;" (.ref a_BINARY)) :
    MetFree l (⟨"com/example/compact_settings/compactsettings/ScalarType", "isText", "()Z"⟩ : MethodName) (head1 (Jvm.Cond.code (⟨"com/example/compact_settings/compactsettings/ScalarType", "isText", "()Z"⟩ : MethodName) prog_38_method_10_code 1 (some .boolean) :: ws) ({ frames := 0, cells := 0, slots := 0, locals := 0 } : Room)) (fun a U => a = #[(.ref u0)] ∧ Z.Warmed39 U.vm ∧ U.heap = h0) (fun _ _ _ _ _ => True) (fun _ U o U' => ∃ v L, o = .returned v ∧ Q2 Z u0 a_STRING a_CHARACTER a_BINARY h0 n0 v U'.heap L ∧ FrameEnd U o U' L ({ frames := 0, cells := 0, slots := 0, locals := 0 } : Room).cells ({ frames := 0, cells := 0, slots := 0, locals := 0 } : Room).slots) := by
  refine MetFree.of_bodySF (plainFor_of_name pn_com_example_compact_settings_compactsettings_ScalarType) hisR ?_
  intro p e s m args below meth c s₁ Bd hml0 hP hK
  obtain ⟨rfl, hZ, hh⟩ := hP
  have hx := Bd.exec
  have hby := Bd.bytes
  have hml : c.maxLocals = 1 := hml0
  have hown : s.vm.findClass "com/example/compact_settings/compactsettings/ScalarType" = some m.cls := findClass_of_methodNamed Bd.named
  have hnm := (name_of_methodNamed Bd.named Bd.method).1
  have X0 : Stand p l e ({ frames := 0, cells := 0, slots := 0, locals := 0 } : Room) s m #[(.ref u0)] below meth c s₁ [] 0 0 := Stand.of_body Bd
  have e0 : s₁.heap = h0 := by rw [← hh, Bd.state]; rfl
  have N0 := Fr.nil n0
  have pre0 : ∀ t, Steps p.tables e below (s₁.setTop (mkF m 0 #[.val (.ref u0)] [])) t → Steps p.tables e below (s₁.setTop (entryFrame m #[(.ref u0)] 1)) t := fun t k => castTop (ef_2 m u0) k
  obtain ⟨T1, X1, e1, st1⟩ := getS2 X0 hx hZ hown (host := "") (Or.inl (hw _ (List.mem_of_getElem? (i := 13) rfl))) Via.refl e0 S_STRING (g := (mkF m 1 #[.val (.ref u0)] [(.ref u0)])) rfl (hb hby d2_1)
  by_cases ha4 : u0 = a_STRING
  · have hv : textOf u0 a_STRING a_CHARACTER a_BINARY = (1 : Int32) := by
      unfold textOf
      exact if_pos (by simp [ha4])
    obtain ⟨fs, hr, hrun, hended, hW, hsame⟩ := X1.leave (v := some (.int (1 : Int32))) (fun h => by rw [Bd.returns] at h; cases h)
    refine ⟨_, _, pre0 _ ?_, hrun, hended, _, _, rfl, ?_, ⟨_, rfl⟩, hW, hsame.mono (by decide) (by decide)⟩
    · show Steps p.tables e below (s₁.setTop (mkF m 0 #[.val (.ref u0)] [])) _
      refine XS.aloadN X0.here hx rfl (hb hby d2_0) rfl rfl ?_
      show Steps p.tables e below (s₁.setTop (mkF m 1 #[.val (.ref u0)] [(.ref u0)])) _
      refine st1 _ ?_
      show Steps p.tables e below (T1.setTop (mkF m 4 #[.val (.ref u0)] [(.ref a_STRING), (.ref u0)])) _
      refine Jvm.RoadKit.acmp (g := (mkF m 4 #[.val (.ref u0)] [(.ref a_STRING), (.ref u0)])) X1 hx rfl rfl rfl (pc0 := 4) (pc' := 21) (same := true) rfl (hb hby d2_4) rfl (decide_eq_true (congrArg Value.ref ha4)) (by decide) (by decide) ?_
      show Steps p.tables e below (T1.setTop (mkF m 21 #[.val (.ref u0)] [])) _
      refine XS.iconst X1.here hx rfl (hb hby d2_21) ?_
      show Steps p.tables e below (T1.setTop (mkF m 22 #[.val (.ref u0)] [(.int (1 : Int32))])) _
      refine XS.goto X1.here hx rfl (pc0 := 22) (pc' := 26) rfl (hb hby d2_22) (by decide) (by decide) ?_
      show Steps p.tables e below (T1.setTop (mkF m 26 #[.val (.ref u0)] [(.int (1 : Int32))])) _
      exact retN X1 hx (t := .boolean) Bd.returns (by simp) (hb hby d2_26) hr
    · show Q2 Z u0 a_STRING a_CHARACTER a_BINARY h0 n0 _ T1.heap _
      rw [e1]
      exact ⟨(by rw [hv]), N0, rfl⟩
  · obtain ⟨T2, X2, e2, st2⟩ := getS2 X1 hx hZ hown (host := "") (Or.inl (hw _ (List.mem_of_getElem? (i := 16) rfl))) Via.refl e1 S_CHARACTER (g := (mkF m 8 #[.val (.ref u0)] [(.ref u0)])) rfl (hb hby d2_8)
    by_cases ha11 : u0 = a_CHARACTER
    · have hv : textOf u0 a_STRING a_CHARACTER a_BINARY = (1 : Int32) := by
        unfold textOf
        exact if_pos (by simp [ha4, ha11])
      obtain ⟨fs, hr, hrun, hended, hW, hsame⟩ := X2.leave (v := some (.int (1 : Int32))) (fun h => by rw [Bd.returns] at h; cases h)
      refine ⟨_, _, pre0 _ ?_, hrun, hended, _, _, rfl, ?_, ⟨_, rfl⟩, hW, hsame.mono (by decide) (by decide)⟩
      · show Steps p.tables e below (s₁.setTop (mkF m 0 #[.val (.ref u0)] [])) _
        refine XS.aloadN X0.here hx rfl (hb hby d2_0) rfl rfl ?_
        show Steps p.tables e below (s₁.setTop (mkF m 1 #[.val (.ref u0)] [(.ref u0)])) _
        refine st1 _ ?_
        show Steps p.tables e below (T1.setTop (mkF m 4 #[.val (.ref u0)] [(.ref a_STRING), (.ref u0)])) _
        refine Jvm.RoadKit.acmp (g := (mkF m 4 #[.val (.ref u0)] [(.ref a_STRING), (.ref u0)])) X1 hx rfl rfl rfl (pc0 := 4) (pc' := 7) (same := false) rfl (hb hby d2_4) rfl (decide_eq_false fun q => ha4 (Value.ref.inj q)) (by decide) (by decide) ?_
        show Steps p.tables e below (T1.setTop (mkF m 7 #[.val (.ref u0)] [])) _
        refine XS.aloadN X1.here hx rfl (hb hby d2_7) rfl rfl ?_
        show Steps p.tables e below (T1.setTop (mkF m 8 #[.val (.ref u0)] [(.ref u0)])) _
        refine st2 _ ?_
        show Steps p.tables e below (T2.setTop (mkF m 11 #[.val (.ref u0)] [(.ref a_CHARACTER), (.ref u0)])) _
        refine Jvm.RoadKit.acmp (g := (mkF m 11 #[.val (.ref u0)] [(.ref a_CHARACTER), (.ref u0)])) X2 hx rfl rfl rfl (pc0 := 11) (pc' := 21) (same := true) rfl (hb hby d2_11) rfl (decide_eq_true (congrArg Value.ref ha11)) (by decide) (by decide) ?_
        show Steps p.tables e below (T2.setTop (mkF m 21 #[.val (.ref u0)] [])) _
        refine XS.iconst X2.here hx rfl (hb hby d2_21) ?_
        show Steps p.tables e below (T2.setTop (mkF m 22 #[.val (.ref u0)] [(.int (1 : Int32))])) _
        refine XS.goto X2.here hx rfl (pc0 := 22) (pc' := 26) rfl (hb hby d2_22) (by decide) (by decide) ?_
        show Steps p.tables e below (T2.setTop (mkF m 26 #[.val (.ref u0)] [(.int (1 : Int32))])) _
        exact retN X2 hx (t := .boolean) Bd.returns (by simp) (hb hby d2_26) hr
      · show Q2 Z u0 a_STRING a_CHARACTER a_BINARY h0 n0 _ T2.heap _
        rw [e2]
        exact ⟨(by rw [hv]), N0, rfl⟩
    · obtain ⟨T3, X3, e3, st3⟩ := getS2 X2 hx hZ hown (host := "") (Or.inl (hw _ (List.mem_of_getElem? (i := 18) rfl))) Via.refl e2 S_BINARY (g := (mkF m 15 #[.val (.ref u0)] [(.ref u0)])) rfl (hb hby d2_15)
      by_cases ha18 : u0 = a_BINARY
      · have hv : textOf u0 a_STRING a_CHARACTER a_BINARY = (1 : Int32) := by
          unfold textOf
          exact if_pos (by simp [ha4, ha11, ha18])
        obtain ⟨fs, hr, hrun, hended, hW, hsame⟩ := X3.leave (v := some (.int (1 : Int32))) (fun h => by rw [Bd.returns] at h; cases h)
        refine ⟨_, _, pre0 _ ?_, hrun, hended, _, _, rfl, ?_, ⟨_, rfl⟩, hW, hsame.mono (by decide) (by decide)⟩
        · show Steps p.tables e below (s₁.setTop (mkF m 0 #[.val (.ref u0)] [])) _
          refine XS.aloadN X0.here hx rfl (hb hby d2_0) rfl rfl ?_
          show Steps p.tables e below (s₁.setTop (mkF m 1 #[.val (.ref u0)] [(.ref u0)])) _
          refine st1 _ ?_
          show Steps p.tables e below (T1.setTop (mkF m 4 #[.val (.ref u0)] [(.ref a_STRING), (.ref u0)])) _
          refine Jvm.RoadKit.acmp (g := (mkF m 4 #[.val (.ref u0)] [(.ref a_STRING), (.ref u0)])) X1 hx rfl rfl rfl (pc0 := 4) (pc' := 7) (same := false) rfl (hb hby d2_4) rfl (decide_eq_false fun q => ha4 (Value.ref.inj q)) (by decide) (by decide) ?_
          show Steps p.tables e below (T1.setTop (mkF m 7 #[.val (.ref u0)] [])) _
          refine XS.aloadN X1.here hx rfl (hb hby d2_7) rfl rfl ?_
          show Steps p.tables e below (T1.setTop (mkF m 8 #[.val (.ref u0)] [(.ref u0)])) _
          refine st2 _ ?_
          show Steps p.tables e below (T2.setTop (mkF m 11 #[.val (.ref u0)] [(.ref a_CHARACTER), (.ref u0)])) _
          refine Jvm.RoadKit.acmp (g := (mkF m 11 #[.val (.ref u0)] [(.ref a_CHARACTER), (.ref u0)])) X2 hx rfl rfl rfl (pc0 := 11) (pc' := 14) (same := false) rfl (hb hby d2_11) rfl (decide_eq_false fun q => ha11 (Value.ref.inj q)) (by decide) (by decide) ?_
          show Steps p.tables e below (T2.setTop (mkF m 14 #[.val (.ref u0)] [])) _
          refine XS.aloadN X2.here hx rfl (hb hby d2_14) rfl rfl ?_
          show Steps p.tables e below (T2.setTop (mkF m 15 #[.val (.ref u0)] [(.ref u0)])) _
          refine st3 _ ?_
          show Steps p.tables e below (T3.setTop (mkF m 18 #[.val (.ref u0)] [(.ref a_BINARY), (.ref u0)])) _
          refine Jvm.RoadKit.acmp (g := (mkF m 18 #[.val (.ref u0)] [(.ref a_BINARY), (.ref u0)])) X3 hx rfl rfl rfl (pc0 := 18) (pc' := 21) (same := true) rfl (hb hby d2_18) rfl (decide_eq_true (congrArg Value.ref ha18)) (by decide) (by decide) ?_
          show Steps p.tables e below (T3.setTop (mkF m 21 #[.val (.ref u0)] [])) _
          refine XS.iconst X3.here hx rfl (hb hby d2_21) ?_
          show Steps p.tables e below (T3.setTop (mkF m 22 #[.val (.ref u0)] [(.int (1 : Int32))])) _
          refine XS.goto X3.here hx rfl (pc0 := 22) (pc' := 26) rfl (hb hby d2_22) (by decide) (by decide) ?_
          show Steps p.tables e below (T3.setTop (mkF m 26 #[.val (.ref u0)] [(.int (1 : Int32))])) _
          exact retN X3 hx (t := .boolean) Bd.returns (by simp) (hb hby d2_26) hr
        · show Q2 Z u0 a_STRING a_CHARACTER a_BINARY h0 n0 _ T3.heap _
          rw [e3]
          exact ⟨(by rw [hv]), N0, rfl⟩
      · have hv : textOf u0 a_STRING a_CHARACTER a_BINARY = (0 : Int32) := by
          unfold textOf
          exact if_neg (by simp [ha4, ha11, ha18])
        obtain ⟨fs, hr, hrun, hended, hW, hsame⟩ := X3.leave (v := some (.int (0 : Int32))) (fun h => by rw [Bd.returns] at h; cases h)
        refine ⟨_, _, pre0 _ ?_, hrun, hended, _, _, rfl, ?_, ⟨_, rfl⟩, hW, hsame.mono (by decide) (by decide)⟩
        · show Steps p.tables e below (s₁.setTop (mkF m 0 #[.val (.ref u0)] [])) _
          refine XS.aloadN X0.here hx rfl (hb hby d2_0) rfl rfl ?_
          show Steps p.tables e below (s₁.setTop (mkF m 1 #[.val (.ref u0)] [(.ref u0)])) _
          refine st1 _ ?_
          show Steps p.tables e below (T1.setTop (mkF m 4 #[.val (.ref u0)] [(.ref a_STRING), (.ref u0)])) _
          refine Jvm.RoadKit.acmp (g := (mkF m 4 #[.val (.ref u0)] [(.ref a_STRING), (.ref u0)])) X1 hx rfl rfl rfl (pc0 := 4) (pc' := 7) (same := false) rfl (hb hby d2_4) rfl (decide_eq_false fun q => ha4 (Value.ref.inj q)) (by decide) (by decide) ?_
          show Steps p.tables e below (T1.setTop (mkF m 7 #[.val (.ref u0)] [])) _
          refine XS.aloadN X1.here hx rfl (hb hby d2_7) rfl rfl ?_
          show Steps p.tables e below (T1.setTop (mkF m 8 #[.val (.ref u0)] [(.ref u0)])) _
          refine st2 _ ?_
          show Steps p.tables e below (T2.setTop (mkF m 11 #[.val (.ref u0)] [(.ref a_CHARACTER), (.ref u0)])) _
          refine Jvm.RoadKit.acmp (g := (mkF m 11 #[.val (.ref u0)] [(.ref a_CHARACTER), (.ref u0)])) X2 hx rfl rfl rfl (pc0 := 11) (pc' := 14) (same := false) rfl (hb hby d2_11) rfl (decide_eq_false fun q => ha11 (Value.ref.inj q)) (by decide) (by decide) ?_
          show Steps p.tables e below (T2.setTop (mkF m 14 #[.val (.ref u0)] [])) _
          refine XS.aloadN X2.here hx rfl (hb hby d2_14) rfl rfl ?_
          show Steps p.tables e below (T2.setTop (mkF m 15 #[.val (.ref u0)] [(.ref u0)])) _
          refine st3 _ ?_
          show Steps p.tables e below (T3.setTop (mkF m 18 #[.val (.ref u0)] [(.ref a_BINARY), (.ref u0)])) _
          refine Jvm.RoadKit.acmp (g := (mkF m 18 #[.val (.ref u0)] [(.ref a_BINARY), (.ref u0)])) X3 hx rfl rfl rfl (pc0 := 18) (pc' := 25) (same := false) rfl (hb hby d2_18) rfl (decide_eq_false fun q => ha18 (Value.ref.inj q)) (by decide) (by decide) ?_
          show Steps p.tables e below (T3.setTop (mkF m 25 #[.val (.ref u0)] [])) _
          refine XS.iconst X3.here hx rfl (hb hby d2_25) ?_
          show Steps p.tables e below (T3.setTop (mkF m 26 #[.val (.ref u0)] [(.int (0 : Int32))])) _
          exact retN X3 hx (t := .boolean) Bd.returns (by simp) (hb hby d2_26) hr
        · show Q2 Z u0 a_STRING a_CHARACTER a_BINARY h0 n0 _ T3.heap _
          rw [e3]
          exact ⟨(by rw [hv]), N0, rfl⟩
theorem pd_1 : parseMethodDescriptor "(I)Lcom/example/compact_settings/compactsettings/ScalarType;" = some ⟨[.int], some (.object "com/example/compact_settings/compactsettings/ScalarType")⟩ := by decide +kernel
theorem pd_0 : parseMethodDescriptor "()Z" = some ⟨[], some .boolean⟩ := by decide +kernel
theorem ef_0 (m : MethodId) (u0 : Int32) : entryFrame m #[(.int u0)] maxLocals = mkF m 0 #[.val (.int u0), .unset, .unset, .unset] [] := by first | (simp [entryFrame, mkF, argsToLocals, Value.category, maxLocals]; done) | rfl
def Q0 (Z : State) (u0 : Int32) (a_STRING : Addr) (a_INTEGER : Addr) (a_LONG : Addr) (a_FLOAT : Addr) (a_DOUBLE : Addr) (a_BYTE : Addr) (a_SHORT : Addr) (a_CHARACTER : Addr) (a_BOOLEAN : Addr) (a_BINARY : Addr) (h0 : Heap) (n0 : Nat) (v : Option Value) (h : Heap) (L : List Loc) : Prop := v = some (.int (1 : Int32)) ∧ Fr n0 L
set_option maxRecDepth 65536 in
set_option maxHeartbeats 40000000 in
theorem rm0 (l : Launch) (Z : State) (a0 : Array Value) (hw : ∀ d ∈ tables_1, d.before a0 Z = true) (ws : List Jvm.Cond) (u0 : Int32) (a_STRING : Addr) (a_INTEGER : Addr) (a_LONG : Addr) (a_FLOAT : Addr) (a_DOUBLE : Addr) (a_BYTE : Addr) (a_SHORT : Addr) (a_CHARACTER : Addr) (a_BOOLEAN : Addr) (a_BINARY : Addr) (h0 : Heap) (n0 : Nat) (Z0 : n0 ≤ h0.size) (S_STRING : Sta Z h0 "com/example/compact_settings/compactsettings/ScalarType" "STRING" "Lcom/example/compact_settings/compactsettings/ScalarType;" (.ref a_STRING)) (S_INTEGER : Sta Z h0 "com/example/compact_settings/compactsettings/ScalarType" "INTEGER" "Lcom/example/compact_settings/compactsettings/ScalarType;" (.ref a_INTEGER)) (S_LONG : Sta Z h0 "com/example/compact_settings/compactsettings/ScalarType" "LONG" "Lcom/example/compact_settings/compactsettings/ScalarType;" (.ref a_LONG)) (S_FLOAT : Sta Z h0 "com/example/compact_settings/compactsettings/ScalarType" "FLOAT" "Lcom/example/compact_settings/compactsettings/ScalarType;" (.ref a_FLOAT)) (S_DOUBLE : Sta Z h0 "com/example/compact_settings/compactsettings/ScalarType" "DOUBLE" "Lcom/example/compact_settings/compactsettings/ScalarType;" (.ref a_DOUBLE)) (S_BYTE : Sta Z h0 "com/example/compact_settings/compactsettings/ScalarType" "BYTE" "Lcom/example/compact_settings/compactsettings/ScalarType;" (.ref a_BYTE)) (S_SHORT : Sta Z h0 "com/example/compact_settings/compactsettings/ScalarType" "SHORT" "Lcom/example/compact_settings/compactsettings/ScalarType;" (.ref a_SHORT)) (S_CHARACTER : Sta Z h0 "com/example/compact_settings/compactsettings/ScalarType" "CHARACTER" "Lcom/example/compact_settings/compactsettings/ScalarType;" (.ref a_CHARACTER)) (S_BOOLEAN : Sta Z h0 "com/example/compact_settings/compactsettings/ScalarType" "BOOLEAN" "Lcom/example/compact_settings/compactsettings/ScalarType;" (.ref a_BOOLEAN)) (S_BINARY : Sta Z h0 "com/example/compact_settings/compactsettings/ScalarType" "BINARY" "Lcom/example/compact_settings/compactsettings/ScalarType;" (.ref a_BINARY)) (E_STRING : Exa Z h0 a_STRING "com/example/compact_settings/compactsettings/ScalarType") (E_INTEGER : Exa Z h0 a_INTEGER "com/example/compact_settings/compactsettings/ScalarType") (E_LONG : Exa Z h0 a_LONG "com/example/compact_settings/compactsettings/ScalarType") (E_FLOAT : Exa Z h0 a_FLOAT "com/example/compact_settings/compactsettings/ScalarType") (E_DOUBLE : Exa Z h0 a_DOUBLE "com/example/compact_settings/compactsettings/ScalarType") (E_BYTE : Exa Z h0 a_BYTE "com/example/compact_settings/compactsettings/ScalarType") (E_SHORT : Exa Z h0 a_SHORT "com/example/compact_settings/compactsettings/ScalarType") (E_CHARACTER : Exa Z h0 a_CHARACTER "com/example/compact_settings/compactsettings/ScalarType") (E_BOOLEAN : Exa Z h0 a_BOOLEAN "com/example/compact_settings/compactsettings/ScalarType") (E_BINARY : Exa Z h0 a_BINARY "com/example/compact_settings/compactsettings/ScalarType") (ne_INTEGER_STRING : a_INTEGER ≠ a_STRING) (ne_INTEGER_CHARACTER : a_INTEGER ≠ a_CHARACTER) (ne_INTEGER_BINARY : a_INTEGER ≠ a_BINARY) (ne_LONG_STRING : a_LONG ≠ a_STRING) (ne_LONG_CHARACTER : a_LONG ≠ a_CHARACTER) (ne_LONG_BINARY : a_LONG ≠ a_BINARY) (ne_FLOAT_STRING : a_FLOAT ≠ a_STRING) (ne_FLOAT_CHARACTER : a_FLOAT ≠ a_CHARACTER) (ne_FLOAT_BINARY : a_FLOAT ≠ a_BINARY) (ne_DOUBLE_STRING : a_DOUBLE ≠ a_STRING) (ne_DOUBLE_CHARACTER : a_DOUBLE ≠ a_CHARACTER) (ne_DOUBLE_BINARY : a_DOUBLE ≠ a_BINARY) (ne_BYTE_STRING : a_BYTE ≠ a_STRING) (ne_BYTE_CHARACTER : a_BYTE ≠ a_CHARACTER) (ne_BYTE_BINARY : a_BYTE ≠ a_BINARY) (ne_SHORT_STRING : a_SHORT ≠ a_STRING) (ne_SHORT_CHARACTER : a_SHORT ≠ a_CHARACTER) (ne_SHORT_BINARY : a_SHORT ≠ a_BINARY) (ne_BOOLEAN_STRING : a_BOOLEAN ≠ a_STRING) (ne_BOOLEAN_CHARACTER : a_BOOLEAN ≠ a_CHARACTER) (ne_BOOLEAN_BINARY : a_BOOLEAN ≠ a_BINARY) :
    MetFree l x (head1 (Jvm.Cond.code x code maxLocals ret :: ws) room_1) (fun a U => a = #[(.int u0)] ∧ Z.Warmed39 U.vm ∧ U.heap = h0) (fun _ _ _ _ _ => True) (fun _ U o U' => ∃ v L, o = .returned v ∧ Q0 Z u0 a_STRING a_INTEGER a_LONG a_FLOAT a_DOUBLE a_BYTE a_SHORT a_CHARACTER a_BOOLEAN a_BINARY h0 n0 v U'.heap L ∧ FrameEnd U o U' L room_1.cells room_1.slots) := by
  refine MetFree.of_bodySF (plainFor_of_name pn_com_example_compact_settings_compactsettings_ScalarTypeIsTextPinLaw) hisR ?_
  intro p e s m args below meth c s₁ Bd hml0 hP hK
  obtain ⟨rfl, hZ, hh⟩ := hP
  have hx := Bd.exec
  have hby := Bd.bytes
  have hml : c.maxLocals = 4 := hml0
  have hown : s.vm.findClass "com/example/compact_settings/compactsettings/ScalarTypeIsTextPinLaw" = some m.cls := findClass_of_methodNamed Bd.named
  have hnm := (name_of_methodNamed Bd.named Bd.method).1
  have X0 : Stand p l e room_1 s m #[(.int u0)] below meth c s₁ [] 0 0 := Stand.of_body Bd
  have e0 : s₁.heap = h0 := by rw [← hh, Bd.state]; rfl
  have N0 := Fr.nil n0
  have pre0 : ∀ t, Steps p.tables e below (s₁.setTop (mkF m 0 #[.val (.int u0), .unset, .unset, .unset] [])) t → Steps p.tables e below (s₁.setTop (entryFrame m #[(.int u0)] maxLocals)) t := fun t k => castTop (ef_0 m u0) k
  have st1 := X0.ldcInt hx hown (mvT hZ (hw _ (List.mem_of_getElem? (i := 0) rfl))) (g := (mkF m 1 #[.val (.int u0), .unset, .unset, .unset] [(.int u0)])) rfl (hb hby at_1)
  obtain ⟨_, _, ⟨T2, L2, k2, n2⟩, -, X2, ⟨Lc2, hQ2, l2, y2, z2⟩, st2⟩ := Jvm.LawKit.callS X0 hx (y := (⟨"com/example/compact_settings/compactsettings/ScalarTypeIsTextPinLaw", "pick", "(I)Lcom/example/compact_settings/compactsettings/ScalarType;"⟩ : MethodName)) hown (mvT hZ (hw _ (List.mem_of_getElem? (i := 1) rfl))) (mvT hZ (hw _ (List.mem_of_getElem? (i := 2) rfl))) (mvT hZ (hw _ (List.mem_of_getElem? (i := 3) rfl))) (mvT hZ (hw _ (List.mem_of_getElem? (i := 4) rfl))) (by decide) (backOf (W := 0) (rm1 l Z a0 hw [] ((u0 &&& (2147483647 : Int32)) % (10 : Int32)) a_STRING a_INTEGER a_LONG a_FLOAT a_DOUBLE a_BYTE a_SHORT a_CHARACTER a_BOOLEAN a_BINARY h0 n0 Z0 S_STRING S_INTEGER S_LONG S_FLOAT S_DOUBLE S_BYTE S_SHORT S_CHARACTER S_BOOLEAN S_BINARY) hZ (hw _ (List.mem_of_getElem? (i := 4) rfl)) (hw _ (List.mem_of_getElem? (i := 3) rfl)) (by decide) (by decide)) (g := (mkF m 9 #[.val (.int u0), .val (.int ((u0 &&& (2147483647 : Int32)) % (10 : Int32))), .unset, .unset] [(.int ((u0 &&& (2147483647 : Int32)) % (10 : Int32)))])) rfl (by rw [hml]; rfl) (argsL := [(.int ((u0 &&& (2147483647 : Int32)) % (10 : Int32)))]) (rest := []) (lenOf pd_1 rfl) rfl (by show 2 * 0 + _ ≤ _; exact Nat.le_of_eq rfl) (hb hby at_9) (fun _ _ => ⟨rfl, e0, (by decide : 0 + 0 ≤ _), (by decide : 0 + 0 ≤ _)⟩)
  dsimp only [Pt.U, Pt.locs, Pt.cells, Pt.slots] at X2 l2 y2 z2 st2 hQ2
  subst l2 y2 z2
  obtain ⟨rfl, N2q, e2⟩ := hQ2
  have N2 := Fr.app N0 N2q
  by_cases hc14 : ((u0 &&& (2147483647 : Int32)) % (10 : Int32)) = (0 : Int32)
  · obtain ⟨cq3, kq3, q3a, q3b, q3c⟩ := isOf hZ e2 (pick_exa E_STRING E_INTEGER E_LONG E_FLOAT E_DOUBLE E_BYTE E_SHORT E_CHARACTER E_BOOLEAN E_BINARY _)
    obtain ⟨_, _, ⟨T3, L3, k3, n3⟩, -, X3, ⟨Lc3, hQ3, l3, y3, z3⟩, st3⟩ := X2.virtualBack hx (y := (⟨"com/example/compact_settings/compactsettings/ScalarType", "isText", "()Z"⟩ : MethodName)) (z := (⟨"com/example/compact_settings/compactsettings/ScalarType", "isText", "()Z"⟩ : MethodName)) hown (mvT hZ (hw _ (List.mem_of_getElem? (i := 8) rfl))) (mvT hZ (hw _ (List.mem_of_getElem? (i := 9) rfl))) (notFace_of_selects (args := #[]) (mvT hZ (hw _ (List.mem_of_getElem? (i := 11) rfl)))) (mvT hZ (hw _ (List.mem_of_getElem? (i := 11) rfl))) (mvT hZ (hw _ (List.mem_of_getElem? (i := 10) rfl))) (by decide) (backOf (W := 0) (rm2 l Z a0 hw [] (pickA ((u0 &&& (2147483647 : Int32)) % (10 : Int32)) a_STRING a_INTEGER a_LONG a_FLOAT a_DOUBLE a_BYTE a_SHORT a_CHARACTER a_BOOLEAN a_BINARY) a_STRING a_CHARACTER a_BINARY h0 n0 Z0 S_STRING S_CHARACTER S_BINARY) hZ (hw _ (List.mem_of_getElem? (i := 12) rfl)) (hw _ (List.mem_of_getElem? (i := 6) rfl)) (by decide) (by decide)) q3a q3c (g := (mkF m 36 #[.val (.int u0), .val (.int ((u0 &&& (2147483647 : Int32)) % (10 : Int32))), .val (.ref (pickA ((u0 &&& (2147483647 : Int32)) % (10 : Int32)) a_STRING a_INTEGER a_LONG a_FLOAT a_DOUBLE a_BYTE a_SHORT a_CHARACTER a_BOOLEAN a_BINARY)), .val (.int (1 : Int32))] [(.ref (pickA ((u0 &&& (2147483647 : Int32)) % (10 : Int32)) a_STRING a_INTEGER a_LONG a_FLOAT a_DOUBLE a_BYTE a_SHORT a_CHARACTER a_BOOLEAN a_BINARY))])) rfl (by rw [hml]; rfl) (Steps.refl _) (argsL := []) (rest := []) (lenOf pd_0 rfl) rfl (by show 2 * 0 + _ ≤ _; exact Nat.le_of_eq rfl) (hb hby at_36) (fun _ _ => ⟨rfl, e2, (by decide : 0 + 0 ≤ _), (by decide : 0 + 0 ≤ _)⟩)
    dsimp only [Pt.U, Pt.locs, Pt.cells, Pt.slots] at X3 l3 y3 z3 st3 hQ3
    subst l3 y3 z3
    obtain ⟨rfl, N3q, e3⟩ := hQ3
    have N3 := Fr.app N2 N3q
    have hb40 : (textOf (pickA ((u0 &&& (2147483647 : Int32)) % (10 : Int32)) a_STRING a_INTEGER a_LONG a_FLOAT a_DOUBLE a_BYTE a_SHORT a_CHARACTER a_BOOLEAN a_BINARY) a_STRING a_CHARACTER a_BINARY) = (1 : Int32) := by
      rw [hc14]
      exact if_pos (by simp [pickA])
    obtain ⟨fs, hr, hrun, hended, hW, hsame⟩ := X3.leave (v := some (.int (1 : Int32))) (fun h => by rw [Bd.returns] at h; cases h)
    refine ⟨_, _, pre0 _ ?_, hrun, hended, _, _, rfl, ?_, ⟨_, rfl⟩, hW, hsame.mono (by decide) (by decide)⟩
    · show Steps p.tables e below (s₁.setTop (mkF m 0 #[.val (.int u0), .unset, .unset, .unset] [])) _
      refine XS.iloadN X0.here hx rfl (hb hby at_0) rfl ?_
      show Steps p.tables e below (s₁.setTop (mkF m 1 #[.val (.int u0), .unset, .unset, .unset] [(.int u0)])) _
      refine st1 _ ?_
      show Steps p.tables e below (s₁.setTop (mkF m 3 #[.val (.int u0), .unset, .unset, .unset] [(.int (2147483647 : Int32)), (.int u0)])) _
      refine XS.iand X0.here hx rfl (hb hby at_3) rfl ?_
      show Steps p.tables e below (s₁.setTop (mkF m 4 #[.val (.int u0), .unset, .unset, .unset] [(.int (u0 &&& (2147483647 : Int32)))])) _
      refine XS.bipush X0.here hx rfl (hb hby at_4) ?_
      show Steps p.tables e below (s₁.setTop (mkF m 6 #[.val (.int u0), .unset, .unset, .unset] [(.int (10 : Int32)), (.int (u0 &&& (2147483647 : Int32)))])) _
      refine iremM X0 hx rfl (hb hby at_6) rfl (by decide) ?_
      show Steps p.tables e below (s₁.setTop (mkF m 7 #[.val (.int u0), .unset, .unset, .unset] [(.int ((u0 &&& (2147483647 : Int32)) % (10 : Int32)))])) _
      refine XS.istoreN X0.here hx rfl (hb hby at_7) rfl (l' := #[.val (.int u0), .val (.int ((u0 &&& (2147483647 : Int32)) % (10 : Int32))), .unset, .unset]) rfl ?_
      show Steps p.tables e below (s₁.setTop (mkF m 8 #[.val (.int u0), .val (.int ((u0 &&& (2147483647 : Int32)) % (10 : Int32))), .unset, .unset] [])) _
      refine XS.iloadN X0.here hx rfl (hb hby at_8) rfl ?_
      show Steps p.tables e below (s₁.setTop (mkF m 9 #[.val (.int u0), .val (.int ((u0 &&& (2147483647 : Int32)) % (10 : Int32))), .unset, .unset] [(.int ((u0 &&& (2147483647 : Int32)) % (10 : Int32)))])) _
      refine st2 _ ?_
      show Steps p.tables e below (T2.setTop (mkF m 12 #[.val (.int u0), .val (.int ((u0 &&& (2147483647 : Int32)) % (10 : Int32))), .unset, .unset] [(.ref (pickA ((u0 &&& (2147483647 : Int32)) % (10 : Int32)) a_STRING a_INTEGER a_LONG a_FLOAT a_DOUBLE a_BYTE a_SHORT a_CHARACTER a_BOOLEAN a_BINARY))])) _
      refine XS.astoreN X2.here hx rfl (hb hby at_12) rfl rfl (l' := #[.val (.int u0), .val (.int ((u0 &&& (2147483647 : Int32)) % (10 : Int32))), .val (.ref (pickA ((u0 &&& (2147483647 : Int32)) % (10 : Int32)) a_STRING a_INTEGER a_LONG a_FLOAT a_DOUBLE a_BYTE a_SHORT a_CHARACTER a_BOOLEAN a_BINARY)), .unset]) rfl ?_
      show Steps p.tables e below (T2.setTop (mkF m 13 #[.val (.int u0), .val (.int ((u0 &&& (2147483647 : Int32)) % (10 : Int32))), .val (.ref (pickA ((u0 &&& (2147483647 : Int32)) % (10 : Int32)) a_STRING a_INTEGER a_LONG a_FLOAT a_DOUBLE a_BYTE a_SHORT a_CHARACTER a_BOOLEAN a_BINARY)), .unset] [])) _
      refine XS.iloadN X2.here hx rfl (hb hby at_13) rfl ?_
      show Steps p.tables e below (T2.setTop (mkF m 14 #[.val (.int u0), .val (.int ((u0 &&& (2147483647 : Int32)) % (10 : Int32))), .val (.ref (pickA ((u0 &&& (2147483647 : Int32)) % (10 : Int32)) a_STRING a_INTEGER a_LONG a_FLOAT a_DOUBLE a_BYTE a_SHORT a_CHARACTER a_BOOLEAN a_BINARY)), .unset] [(.int ((u0 &&& (2147483647 : Int32)) % (10 : Int32)))])) _
      refine XS.ifYes X2.here hx rfl (pc0 := 14) (pc' := 29) rfl (hb hby at_14) rfl ((if0 _ _).trans (teq hc14).1) (by decide) (by decide) ?_
      show Steps p.tables e below (T2.setTop (mkF m 29 #[.val (.int u0), .val (.int ((u0 &&& (2147483647 : Int32)) % (10 : Int32))), .val (.ref (pickA ((u0 &&& (2147483647 : Int32)) % (10 : Int32)) a_STRING a_INTEGER a_LONG a_FLOAT a_DOUBLE a_BYTE a_SHORT a_CHARACTER a_BOOLEAN a_BINARY)), .unset] [])) _
      refine XS.iconst X2.here hx rfl (hb hby at_29) ?_
      show Steps p.tables e below (T2.setTop (mkF m 30 #[.val (.int u0), .val (.int ((u0 &&& (2147483647 : Int32)) % (10 : Int32))), .val (.ref (pickA ((u0 &&& (2147483647 : Int32)) % (10 : Int32)) a_STRING a_INTEGER a_LONG a_FLOAT a_DOUBLE a_BYTE a_SHORT a_CHARACTER a_BOOLEAN a_BINARY)), .unset] [(.int (1 : Int32))])) _
      refine XS.goto X2.here hx rfl (pc0 := 30) (pc' := 34) rfl (hb hby at_30) (by decide) (by decide) ?_
      show Steps p.tables e below (T2.setTop (mkF m 34 #[.val (.int u0), .val (.int ((u0 &&& (2147483647 : Int32)) % (10 : Int32))), .val (.ref (pickA ((u0 &&& (2147483647 : Int32)) % (10 : Int32)) a_STRING a_INTEGER a_LONG a_FLOAT a_DOUBLE a_BYTE a_SHORT a_CHARACTER a_BOOLEAN a_BINARY)), .unset] [(.int (1 : Int32))])) _
      refine XS.istoreN X2.here hx rfl (hb hby at_34) rfl (l' := #[.val (.int u0), .val (.int ((u0 &&& (2147483647 : Int32)) % (10 : Int32))), .val (.ref (pickA ((u0 &&& (2147483647 : Int32)) % (10 : Int32)) a_STRING a_INTEGER a_LONG a_FLOAT a_DOUBLE a_BYTE a_SHORT a_CHARACTER a_BOOLEAN a_BINARY)), .val (.int (1 : Int32))]) rfl ?_
      show Steps p.tables e below (T2.setTop (mkF m 35 #[.val (.int u0), .val (.int ((u0 &&& (2147483647 : Int32)) % (10 : Int32))), .val (.ref (pickA ((u0 &&& (2147483647 : Int32)) % (10 : Int32)) a_STRING a_INTEGER a_LONG a_FLOAT a_DOUBLE a_BYTE a_SHORT a_CHARACTER a_BOOLEAN a_BINARY)), .val (.int (1 : Int32))] [])) _
      refine XS.aloadN X2.here hx rfl (hb hby at_35) rfl rfl ?_
      show Steps p.tables e below (T2.setTop (mkF m 36 #[.val (.int u0), .val (.int ((u0 &&& (2147483647 : Int32)) % (10 : Int32))), .val (.ref (pickA ((u0 &&& (2147483647 : Int32)) % (10 : Int32)) a_STRING a_INTEGER a_LONG a_FLOAT a_DOUBLE a_BYTE a_SHORT a_CHARACTER a_BOOLEAN a_BINARY)), .val (.int (1 : Int32))] [(.ref (pickA ((u0 &&& (2147483647 : Int32)) % (10 : Int32)) a_STRING a_INTEGER a_LONG a_FLOAT a_DOUBLE a_BYTE a_SHORT a_CHARACTER a_BOOLEAN a_BINARY))])) _
      refine st3.trans ?_
      show Steps p.tables e below (T3.setTop (mkF m 39 #[.val (.int u0), .val (.int ((u0 &&& (2147483647 : Int32)) % (10 : Int32))), .val (.ref (pickA ((u0 &&& (2147483647 : Int32)) % (10 : Int32)) a_STRING a_INTEGER a_LONG a_FLOAT a_DOUBLE a_BYTE a_SHORT a_CHARACTER a_BOOLEAN a_BINARY)), .val (.int (1 : Int32))] [(.int (textOf (pickA ((u0 &&& (2147483647 : Int32)) % (10 : Int32)) a_STRING a_INTEGER a_LONG a_FLOAT a_DOUBLE a_BYTE a_SHORT a_CHARACTER a_BOOLEAN a_BINARY) a_STRING a_CHARACTER a_BINARY))])) _
      refine XS.iloadN X3.here hx rfl (hb hby at_39) rfl ?_
      show Steps p.tables e below (T3.setTop (mkF m 40 #[.val (.int u0), .val (.int ((u0 &&& (2147483647 : Int32)) % (10 : Int32))), .val (.ref (pickA ((u0 &&& (2147483647 : Int32)) % (10 : Int32)) a_STRING a_INTEGER a_LONG a_FLOAT a_DOUBLE a_BYTE a_SHORT a_CHARACTER a_BOOLEAN a_BINARY)), .val (.int (1 : Int32))] [(.int (1 : Int32)), (.int (textOf (pickA ((u0 &&& (2147483647 : Int32)) % (10 : Int32)) a_STRING a_INTEGER a_LONG a_FLOAT a_DOUBLE a_BYTE a_SHORT a_CHARACTER a_BOOLEAN a_BINARY) a_STRING a_CHARACTER a_BINARY))])) _
      refine XS.icmpNo X3.here hx rfl (hb hby at_40) rfl (teq hb40).2 ?_
      show Steps p.tables e below (T3.setTop (mkF m 43 #[.val (.int u0), .val (.int ((u0 &&& (2147483647 : Int32)) % (10 : Int32))), .val (.ref (pickA ((u0 &&& (2147483647 : Int32)) % (10 : Int32)) a_STRING a_INTEGER a_LONG a_FLOAT a_DOUBLE a_BYTE a_SHORT a_CHARACTER a_BOOLEAN a_BINARY)), .val (.int (1 : Int32))] [])) _
      refine XS.iconst X3.here hx rfl (hb hby at_43) ?_
      show Steps p.tables e below (T3.setTop (mkF m 44 #[.val (.int u0), .val (.int ((u0 &&& (2147483647 : Int32)) % (10 : Int32))), .val (.ref (pickA ((u0 &&& (2147483647 : Int32)) % (10 : Int32)) a_STRING a_INTEGER a_LONG a_FLOAT a_DOUBLE a_BYTE a_SHORT a_CHARACTER a_BOOLEAN a_BINARY)), .val (.int (1 : Int32))] [(.int (1 : Int32))])) _
      refine XS.goto X3.here hx rfl (pc0 := 44) (pc' := 48) rfl (hb hby at_44) (by decide) (by decide) ?_
      show Steps p.tables e below (T3.setTop (mkF m 48 #[.val (.int u0), .val (.int ((u0 &&& (2147483647 : Int32)) % (10 : Int32))), .val (.ref (pickA ((u0 &&& (2147483647 : Int32)) % (10 : Int32)) a_STRING a_INTEGER a_LONG a_FLOAT a_DOUBLE a_BYTE a_SHORT a_CHARACTER a_BOOLEAN a_BINARY)), .val (.int (1 : Int32))] [(.int (1 : Int32))])) _
      exact retN X3 hx (t := .boolean) Bd.returns (by simp) (hb hby at_48) hr
    · show Q0 Z u0 a_STRING a_INTEGER a_LONG a_FLOAT a_DOUBLE a_BYTE a_SHORT a_CHARACTER a_BOOLEAN a_BINARY h0 n0 _ T3.heap _
      rw [e3]
      exact ⟨rfl, N3⟩
  · by_cases hc20 : ((u0 &&& (2147483647 : Int32)) % (10 : Int32)) = (7 : Int32)
    · obtain ⟨cq4, kq4, q4a, q4b, q4c⟩ := isOf hZ e2 (pick_exa E_STRING E_INTEGER E_LONG E_FLOAT E_DOUBLE E_BYTE E_SHORT E_CHARACTER E_BOOLEAN E_BINARY _)
      obtain ⟨_, _, ⟨T4, L4, k4, n4⟩, -, X4, ⟨Lc4, hQ4, l4, y4, z4⟩, st4⟩ := X2.virtualBack hx (y := (⟨"com/example/compact_settings/compactsettings/ScalarType", "isText", "()Z"⟩ : MethodName)) (z := (⟨"com/example/compact_settings/compactsettings/ScalarType", "isText", "()Z"⟩ : MethodName)) hown (mvT hZ (hw _ (List.mem_of_getElem? (i := 8) rfl))) (mvT hZ (hw _ (List.mem_of_getElem? (i := 9) rfl))) (notFace_of_selects (args := #[]) (mvT hZ (hw _ (List.mem_of_getElem? (i := 11) rfl)))) (mvT hZ (hw _ (List.mem_of_getElem? (i := 11) rfl))) (mvT hZ (hw _ (List.mem_of_getElem? (i := 10) rfl))) (by decide) (backOf (W := 0) (rm2 l Z a0 hw [] (pickA ((u0 &&& (2147483647 : Int32)) % (10 : Int32)) a_STRING a_INTEGER a_LONG a_FLOAT a_DOUBLE a_BYTE a_SHORT a_CHARACTER a_BOOLEAN a_BINARY) a_STRING a_CHARACTER a_BINARY h0 n0 Z0 S_STRING S_CHARACTER S_BINARY) hZ (hw _ (List.mem_of_getElem? (i := 12) rfl)) (hw _ (List.mem_of_getElem? (i := 6) rfl)) (by decide) (by decide)) q4a q4c (g := (mkF m 36 #[.val (.int u0), .val (.int ((u0 &&& (2147483647 : Int32)) % (10 : Int32))), .val (.ref (pickA ((u0 &&& (2147483647 : Int32)) % (10 : Int32)) a_STRING a_INTEGER a_LONG a_FLOAT a_DOUBLE a_BYTE a_SHORT a_CHARACTER a_BOOLEAN a_BINARY)), .val (.int (1 : Int32))] [(.ref (pickA ((u0 &&& (2147483647 : Int32)) % (10 : Int32)) a_STRING a_INTEGER a_LONG a_FLOAT a_DOUBLE a_BYTE a_SHORT a_CHARACTER a_BOOLEAN a_BINARY))])) rfl (by rw [hml]; rfl) (Steps.refl _) (argsL := []) (rest := []) (lenOf pd_0 rfl) rfl (by show 2 * 0 + _ ≤ _; exact Nat.le_of_eq rfl) (hb hby at_36) (fun _ _ => ⟨rfl, e2, (by decide : 0 + 0 ≤ _), (by decide : 0 + 0 ≤ _)⟩)
      dsimp only [Pt.U, Pt.locs, Pt.cells, Pt.slots] at X4 l4 y4 z4 st4 hQ4
      subst l4 y4 z4
      obtain ⟨rfl, N4q, e4⟩ := hQ4
      have N4 := Fr.app N2 N4q
      have hb40 : (textOf (pickA ((u0 &&& (2147483647 : Int32)) % (10 : Int32)) a_STRING a_INTEGER a_LONG a_FLOAT a_DOUBLE a_BYTE a_SHORT a_CHARACTER a_BOOLEAN a_BINARY) a_STRING a_CHARACTER a_BINARY) = (1 : Int32) := by
        rw [hc20]
        exact if_pos (by simp [pickA])
      obtain ⟨fs, hr, hrun, hended, hW, hsame⟩ := X4.leave (v := some (.int (1 : Int32))) (fun h => by rw [Bd.returns] at h; cases h)
      refine ⟨_, _, pre0 _ ?_, hrun, hended, _, _, rfl, ?_, ⟨_, rfl⟩, hW, hsame.mono (by decide) (by decide)⟩
      · show Steps p.tables e below (s₁.setTop (mkF m 0 #[.val (.int u0), .unset, .unset, .unset] [])) _
        refine XS.iloadN X0.here hx rfl (hb hby at_0) rfl ?_
        show Steps p.tables e below (s₁.setTop (mkF m 1 #[.val (.int u0), .unset, .unset, .unset] [(.int u0)])) _
        refine st1 _ ?_
        show Steps p.tables e below (s₁.setTop (mkF m 3 #[.val (.int u0), .unset, .unset, .unset] [(.int (2147483647 : Int32)), (.int u0)])) _
        refine XS.iand X0.here hx rfl (hb hby at_3) rfl ?_
        show Steps p.tables e below (s₁.setTop (mkF m 4 #[.val (.int u0), .unset, .unset, .unset] [(.int (u0 &&& (2147483647 : Int32)))])) _
        refine XS.bipush X0.here hx rfl (hb hby at_4) ?_
        show Steps p.tables e below (s₁.setTop (mkF m 6 #[.val (.int u0), .unset, .unset, .unset] [(.int (10 : Int32)), (.int (u0 &&& (2147483647 : Int32)))])) _
        refine iremM X0 hx rfl (hb hby at_6) rfl (by decide) ?_
        show Steps p.tables e below (s₁.setTop (mkF m 7 #[.val (.int u0), .unset, .unset, .unset] [(.int ((u0 &&& (2147483647 : Int32)) % (10 : Int32)))])) _
        refine XS.istoreN X0.here hx rfl (hb hby at_7) rfl (l' := #[.val (.int u0), .val (.int ((u0 &&& (2147483647 : Int32)) % (10 : Int32))), .unset, .unset]) rfl ?_
        show Steps p.tables e below (s₁.setTop (mkF m 8 #[.val (.int u0), .val (.int ((u0 &&& (2147483647 : Int32)) % (10 : Int32))), .unset, .unset] [])) _
        refine XS.iloadN X0.here hx rfl (hb hby at_8) rfl ?_
        show Steps p.tables e below (s₁.setTop (mkF m 9 #[.val (.int u0), .val (.int ((u0 &&& (2147483647 : Int32)) % (10 : Int32))), .unset, .unset] [(.int ((u0 &&& (2147483647 : Int32)) % (10 : Int32)))])) _
        refine st2 _ ?_
        show Steps p.tables e below (T2.setTop (mkF m 12 #[.val (.int u0), .val (.int ((u0 &&& (2147483647 : Int32)) % (10 : Int32))), .unset, .unset] [(.ref (pickA ((u0 &&& (2147483647 : Int32)) % (10 : Int32)) a_STRING a_INTEGER a_LONG a_FLOAT a_DOUBLE a_BYTE a_SHORT a_CHARACTER a_BOOLEAN a_BINARY))])) _
        refine XS.astoreN X2.here hx rfl (hb hby at_12) rfl rfl (l' := #[.val (.int u0), .val (.int ((u0 &&& (2147483647 : Int32)) % (10 : Int32))), .val (.ref (pickA ((u0 &&& (2147483647 : Int32)) % (10 : Int32)) a_STRING a_INTEGER a_LONG a_FLOAT a_DOUBLE a_BYTE a_SHORT a_CHARACTER a_BOOLEAN a_BINARY)), .unset]) rfl ?_
        show Steps p.tables e below (T2.setTop (mkF m 13 #[.val (.int u0), .val (.int ((u0 &&& (2147483647 : Int32)) % (10 : Int32))), .val (.ref (pickA ((u0 &&& (2147483647 : Int32)) % (10 : Int32)) a_STRING a_INTEGER a_LONG a_FLOAT a_DOUBLE a_BYTE a_SHORT a_CHARACTER a_BOOLEAN a_BINARY)), .unset] [])) _
        refine XS.iloadN X2.here hx rfl (hb hby at_13) rfl ?_
        show Steps p.tables e below (T2.setTop (mkF m 14 #[.val (.int u0), .val (.int ((u0 &&& (2147483647 : Int32)) % (10 : Int32))), .val (.ref (pickA ((u0 &&& (2147483647 : Int32)) % (10 : Int32)) a_STRING a_INTEGER a_LONG a_FLOAT a_DOUBLE a_BYTE a_SHORT a_CHARACTER a_BOOLEAN a_BINARY)), .unset] [(.int ((u0 &&& (2147483647 : Int32)) % (10 : Int32)))])) _
        refine XS.ifNo X2.here hx rfl (hb hby at_14) rfl ((if0 _ _).trans (feq hc14).1) ?_
        show Steps p.tables e below (T2.setTop (mkF m 17 #[.val (.int u0), .val (.int ((u0 &&& (2147483647 : Int32)) % (10 : Int32))), .val (.ref (pickA ((u0 &&& (2147483647 : Int32)) % (10 : Int32)) a_STRING a_INTEGER a_LONG a_FLOAT a_DOUBLE a_BYTE a_SHORT a_CHARACTER a_BOOLEAN a_BINARY)), .unset] [])) _
        refine XS.iloadN X2.here hx rfl (hb hby at_17) rfl ?_
        show Steps p.tables e below (T2.setTop (mkF m 18 #[.val (.int u0), .val (.int ((u0 &&& (2147483647 : Int32)) % (10 : Int32))), .val (.ref (pickA ((u0 &&& (2147483647 : Int32)) % (10 : Int32)) a_STRING a_INTEGER a_LONG a_FLOAT a_DOUBLE a_BYTE a_SHORT a_CHARACTER a_BOOLEAN a_BINARY)), .unset] [(.int ((u0 &&& (2147483647 : Int32)) % (10 : Int32)))])) _
        refine XS.bipush X2.here hx rfl (hb hby at_18) ?_
        show Steps p.tables e below (T2.setTop (mkF m 20 #[.val (.int u0), .val (.int ((u0 &&& (2147483647 : Int32)) % (10 : Int32))), .val (.ref (pickA ((u0 &&& (2147483647 : Int32)) % (10 : Int32)) a_STRING a_INTEGER a_LONG a_FLOAT a_DOUBLE a_BYTE a_SHORT a_CHARACTER a_BOOLEAN a_BINARY)), .unset] [(.int (7 : Int32)), (.int ((u0 &&& (2147483647 : Int32)) % (10 : Int32)))])) _
        refine XS.icmpYes X2.here hx rfl (pc0 := 20) (pc' := 29) rfl (hb hby at_20) rfl (teq hc20).1 (by decide) (by decide) ?_
        show Steps p.tables e below (T2.setTop (mkF m 29 #[.val (.int u0), .val (.int ((u0 &&& (2147483647 : Int32)) % (10 : Int32))), .val (.ref (pickA ((u0 &&& (2147483647 : Int32)) % (10 : Int32)) a_STRING a_INTEGER a_LONG a_FLOAT a_DOUBLE a_BYTE a_SHORT a_CHARACTER a_BOOLEAN a_BINARY)), .unset] [])) _
        refine XS.iconst X2.here hx rfl (hb hby at_29) ?_
        show Steps p.tables e below (T2.setTop (mkF m 30 #[.val (.int u0), .val (.int ((u0 &&& (2147483647 : Int32)) % (10 : Int32))), .val (.ref (pickA ((u0 &&& (2147483647 : Int32)) % (10 : Int32)) a_STRING a_INTEGER a_LONG a_FLOAT a_DOUBLE a_BYTE a_SHORT a_CHARACTER a_BOOLEAN a_BINARY)), .unset] [(.int (1 : Int32))])) _
        refine XS.goto X2.here hx rfl (pc0 := 30) (pc' := 34) rfl (hb hby at_30) (by decide) (by decide) ?_
        show Steps p.tables e below (T2.setTop (mkF m 34 #[.val (.int u0), .val (.int ((u0 &&& (2147483647 : Int32)) % (10 : Int32))), .val (.ref (pickA ((u0 &&& (2147483647 : Int32)) % (10 : Int32)) a_STRING a_INTEGER a_LONG a_FLOAT a_DOUBLE a_BYTE a_SHORT a_CHARACTER a_BOOLEAN a_BINARY)), .unset] [(.int (1 : Int32))])) _
        refine XS.istoreN X2.here hx rfl (hb hby at_34) rfl (l' := #[.val (.int u0), .val (.int ((u0 &&& (2147483647 : Int32)) % (10 : Int32))), .val (.ref (pickA ((u0 &&& (2147483647 : Int32)) % (10 : Int32)) a_STRING a_INTEGER a_LONG a_FLOAT a_DOUBLE a_BYTE a_SHORT a_CHARACTER a_BOOLEAN a_BINARY)), .val (.int (1 : Int32))]) rfl ?_
        show Steps p.tables e below (T2.setTop (mkF m 35 #[.val (.int u0), .val (.int ((u0 &&& (2147483647 : Int32)) % (10 : Int32))), .val (.ref (pickA ((u0 &&& (2147483647 : Int32)) % (10 : Int32)) a_STRING a_INTEGER a_LONG a_FLOAT a_DOUBLE a_BYTE a_SHORT a_CHARACTER a_BOOLEAN a_BINARY)), .val (.int (1 : Int32))] [])) _
        refine XS.aloadN X2.here hx rfl (hb hby at_35) rfl rfl ?_
        show Steps p.tables e below (T2.setTop (mkF m 36 #[.val (.int u0), .val (.int ((u0 &&& (2147483647 : Int32)) % (10 : Int32))), .val (.ref (pickA ((u0 &&& (2147483647 : Int32)) % (10 : Int32)) a_STRING a_INTEGER a_LONG a_FLOAT a_DOUBLE a_BYTE a_SHORT a_CHARACTER a_BOOLEAN a_BINARY)), .val (.int (1 : Int32))] [(.ref (pickA ((u0 &&& (2147483647 : Int32)) % (10 : Int32)) a_STRING a_INTEGER a_LONG a_FLOAT a_DOUBLE a_BYTE a_SHORT a_CHARACTER a_BOOLEAN a_BINARY))])) _
        refine st4.trans ?_
        show Steps p.tables e below (T4.setTop (mkF m 39 #[.val (.int u0), .val (.int ((u0 &&& (2147483647 : Int32)) % (10 : Int32))), .val (.ref (pickA ((u0 &&& (2147483647 : Int32)) % (10 : Int32)) a_STRING a_INTEGER a_LONG a_FLOAT a_DOUBLE a_BYTE a_SHORT a_CHARACTER a_BOOLEAN a_BINARY)), .val (.int (1 : Int32))] [(.int (textOf (pickA ((u0 &&& (2147483647 : Int32)) % (10 : Int32)) a_STRING a_INTEGER a_LONG a_FLOAT a_DOUBLE a_BYTE a_SHORT a_CHARACTER a_BOOLEAN a_BINARY) a_STRING a_CHARACTER a_BINARY))])) _
        refine XS.iloadN X4.here hx rfl (hb hby at_39) rfl ?_
        show Steps p.tables e below (T4.setTop (mkF m 40 #[.val (.int u0), .val (.int ((u0 &&& (2147483647 : Int32)) % (10 : Int32))), .val (.ref (pickA ((u0 &&& (2147483647 : Int32)) % (10 : Int32)) a_STRING a_INTEGER a_LONG a_FLOAT a_DOUBLE a_BYTE a_SHORT a_CHARACTER a_BOOLEAN a_BINARY)), .val (.int (1 : Int32))] [(.int (1 : Int32)), (.int (textOf (pickA ((u0 &&& (2147483647 : Int32)) % (10 : Int32)) a_STRING a_INTEGER a_LONG a_FLOAT a_DOUBLE a_BYTE a_SHORT a_CHARACTER a_BOOLEAN a_BINARY) a_STRING a_CHARACTER a_BINARY))])) _
        refine XS.icmpNo X4.here hx rfl (hb hby at_40) rfl (teq hb40).2 ?_
        show Steps p.tables e below (T4.setTop (mkF m 43 #[.val (.int u0), .val (.int ((u0 &&& (2147483647 : Int32)) % (10 : Int32))), .val (.ref (pickA ((u0 &&& (2147483647 : Int32)) % (10 : Int32)) a_STRING a_INTEGER a_LONG a_FLOAT a_DOUBLE a_BYTE a_SHORT a_CHARACTER a_BOOLEAN a_BINARY)), .val (.int (1 : Int32))] [])) _
        refine XS.iconst X4.here hx rfl (hb hby at_43) ?_
        show Steps p.tables e below (T4.setTop (mkF m 44 #[.val (.int u0), .val (.int ((u0 &&& (2147483647 : Int32)) % (10 : Int32))), .val (.ref (pickA ((u0 &&& (2147483647 : Int32)) % (10 : Int32)) a_STRING a_INTEGER a_LONG a_FLOAT a_DOUBLE a_BYTE a_SHORT a_CHARACTER a_BOOLEAN a_BINARY)), .val (.int (1 : Int32))] [(.int (1 : Int32))])) _
        refine XS.goto X4.here hx rfl (pc0 := 44) (pc' := 48) rfl (hb hby at_44) (by decide) (by decide) ?_
        show Steps p.tables e below (T4.setTop (mkF m 48 #[.val (.int u0), .val (.int ((u0 &&& (2147483647 : Int32)) % (10 : Int32))), .val (.ref (pickA ((u0 &&& (2147483647 : Int32)) % (10 : Int32)) a_STRING a_INTEGER a_LONG a_FLOAT a_DOUBLE a_BYTE a_SHORT a_CHARACTER a_BOOLEAN a_BINARY)), .val (.int (1 : Int32))] [(.int (1 : Int32))])) _
        exact retN X4 hx (t := .boolean) Bd.returns (by simp) (hb hby at_48) hr
      · show Q0 Z u0 a_STRING a_INTEGER a_LONG a_FLOAT a_DOUBLE a_BYTE a_SHORT a_CHARACTER a_BOOLEAN a_BINARY h0 n0 _ T4.heap _
        rw [e4]
        exact ⟨rfl, N4⟩
    · by_cases hc26 : ((u0 &&& (2147483647 : Int32)) % (10 : Int32)) = (9 : Int32)
      · obtain ⟨cq5, kq5, q5a, q5b, q5c⟩ := isOf hZ e2 (pick_exa E_STRING E_INTEGER E_LONG E_FLOAT E_DOUBLE E_BYTE E_SHORT E_CHARACTER E_BOOLEAN E_BINARY _)
        obtain ⟨_, _, ⟨T5, L5, k5, n5⟩, -, X5, ⟨Lc5, hQ5, l5, y5, z5⟩, st5⟩ := X2.virtualBack hx (y := (⟨"com/example/compact_settings/compactsettings/ScalarType", "isText", "()Z"⟩ : MethodName)) (z := (⟨"com/example/compact_settings/compactsettings/ScalarType", "isText", "()Z"⟩ : MethodName)) hown (mvT hZ (hw _ (List.mem_of_getElem? (i := 8) rfl))) (mvT hZ (hw _ (List.mem_of_getElem? (i := 9) rfl))) (notFace_of_selects (args := #[]) (mvT hZ (hw _ (List.mem_of_getElem? (i := 11) rfl)))) (mvT hZ (hw _ (List.mem_of_getElem? (i := 11) rfl))) (mvT hZ (hw _ (List.mem_of_getElem? (i := 10) rfl))) (by decide) (backOf (W := 0) (rm2 l Z a0 hw [] (pickA ((u0 &&& (2147483647 : Int32)) % (10 : Int32)) a_STRING a_INTEGER a_LONG a_FLOAT a_DOUBLE a_BYTE a_SHORT a_CHARACTER a_BOOLEAN a_BINARY) a_STRING a_CHARACTER a_BINARY h0 n0 Z0 S_STRING S_CHARACTER S_BINARY) hZ (hw _ (List.mem_of_getElem? (i := 12) rfl)) (hw _ (List.mem_of_getElem? (i := 6) rfl)) (by decide) (by decide)) q5a q5c (g := (mkF m 36 #[.val (.int u0), .val (.int ((u0 &&& (2147483647 : Int32)) % (10 : Int32))), .val (.ref (pickA ((u0 &&& (2147483647 : Int32)) % (10 : Int32)) a_STRING a_INTEGER a_LONG a_FLOAT a_DOUBLE a_BYTE a_SHORT a_CHARACTER a_BOOLEAN a_BINARY)), .val (.int (1 : Int32))] [(.ref (pickA ((u0 &&& (2147483647 : Int32)) % (10 : Int32)) a_STRING a_INTEGER a_LONG a_FLOAT a_DOUBLE a_BYTE a_SHORT a_CHARACTER a_BOOLEAN a_BINARY))])) rfl (by rw [hml]; rfl) (Steps.refl _) (argsL := []) (rest := []) (lenOf pd_0 rfl) rfl (by show 2 * 0 + _ ≤ _; exact Nat.le_of_eq rfl) (hb hby at_36) (fun _ _ => ⟨rfl, e2, (by decide : 0 + 0 ≤ _), (by decide : 0 + 0 ≤ _)⟩)
        dsimp only [Pt.U, Pt.locs, Pt.cells, Pt.slots] at X5 l5 y5 z5 st5 hQ5
        subst l5 y5 z5
        obtain ⟨rfl, N5q, e5⟩ := hQ5
        have N5 := Fr.app N2 N5q
        have hb40 : (textOf (pickA ((u0 &&& (2147483647 : Int32)) % (10 : Int32)) a_STRING a_INTEGER a_LONG a_FLOAT a_DOUBLE a_BYTE a_SHORT a_CHARACTER a_BOOLEAN a_BINARY) a_STRING a_CHARACTER a_BINARY) = (1 : Int32) := by
          rw [hc26]
          exact if_pos (by simp [pickA])
        obtain ⟨fs, hr, hrun, hended, hW, hsame⟩ := X5.leave (v := some (.int (1 : Int32))) (fun h => by rw [Bd.returns] at h; cases h)
        refine ⟨_, _, pre0 _ ?_, hrun, hended, _, _, rfl, ?_, ⟨_, rfl⟩, hW, hsame.mono (by decide) (by decide)⟩
        · show Steps p.tables e below (s₁.setTop (mkF m 0 #[.val (.int u0), .unset, .unset, .unset] [])) _
          refine XS.iloadN X0.here hx rfl (hb hby at_0) rfl ?_
          show Steps p.tables e below (s₁.setTop (mkF m 1 #[.val (.int u0), .unset, .unset, .unset] [(.int u0)])) _
          refine st1 _ ?_
          show Steps p.tables e below (s₁.setTop (mkF m 3 #[.val (.int u0), .unset, .unset, .unset] [(.int (2147483647 : Int32)), (.int u0)])) _
          refine XS.iand X0.here hx rfl (hb hby at_3) rfl ?_
          show Steps p.tables e below (s₁.setTop (mkF m 4 #[.val (.int u0), .unset, .unset, .unset] [(.int (u0 &&& (2147483647 : Int32)))])) _
          refine XS.bipush X0.here hx rfl (hb hby at_4) ?_
          show Steps p.tables e below (s₁.setTop (mkF m 6 #[.val (.int u0), .unset, .unset, .unset] [(.int (10 : Int32)), (.int (u0 &&& (2147483647 : Int32)))])) _
          refine iremM X0 hx rfl (hb hby at_6) rfl (by decide) ?_
          show Steps p.tables e below (s₁.setTop (mkF m 7 #[.val (.int u0), .unset, .unset, .unset] [(.int ((u0 &&& (2147483647 : Int32)) % (10 : Int32)))])) _
          refine XS.istoreN X0.here hx rfl (hb hby at_7) rfl (l' := #[.val (.int u0), .val (.int ((u0 &&& (2147483647 : Int32)) % (10 : Int32))), .unset, .unset]) rfl ?_
          show Steps p.tables e below (s₁.setTop (mkF m 8 #[.val (.int u0), .val (.int ((u0 &&& (2147483647 : Int32)) % (10 : Int32))), .unset, .unset] [])) _
          refine XS.iloadN X0.here hx rfl (hb hby at_8) rfl ?_
          show Steps p.tables e below (s₁.setTop (mkF m 9 #[.val (.int u0), .val (.int ((u0 &&& (2147483647 : Int32)) % (10 : Int32))), .unset, .unset] [(.int ((u0 &&& (2147483647 : Int32)) % (10 : Int32)))])) _
          refine st2 _ ?_
          show Steps p.tables e below (T2.setTop (mkF m 12 #[.val (.int u0), .val (.int ((u0 &&& (2147483647 : Int32)) % (10 : Int32))), .unset, .unset] [(.ref (pickA ((u0 &&& (2147483647 : Int32)) % (10 : Int32)) a_STRING a_INTEGER a_LONG a_FLOAT a_DOUBLE a_BYTE a_SHORT a_CHARACTER a_BOOLEAN a_BINARY))])) _
          refine XS.astoreN X2.here hx rfl (hb hby at_12) rfl rfl (l' := #[.val (.int u0), .val (.int ((u0 &&& (2147483647 : Int32)) % (10 : Int32))), .val (.ref (pickA ((u0 &&& (2147483647 : Int32)) % (10 : Int32)) a_STRING a_INTEGER a_LONG a_FLOAT a_DOUBLE a_BYTE a_SHORT a_CHARACTER a_BOOLEAN a_BINARY)), .unset]) rfl ?_
          show Steps p.tables e below (T2.setTop (mkF m 13 #[.val (.int u0), .val (.int ((u0 &&& (2147483647 : Int32)) % (10 : Int32))), .val (.ref (pickA ((u0 &&& (2147483647 : Int32)) % (10 : Int32)) a_STRING a_INTEGER a_LONG a_FLOAT a_DOUBLE a_BYTE a_SHORT a_CHARACTER a_BOOLEAN a_BINARY)), .unset] [])) _
          refine XS.iloadN X2.here hx rfl (hb hby at_13) rfl ?_
          show Steps p.tables e below (T2.setTop (mkF m 14 #[.val (.int u0), .val (.int ((u0 &&& (2147483647 : Int32)) % (10 : Int32))), .val (.ref (pickA ((u0 &&& (2147483647 : Int32)) % (10 : Int32)) a_STRING a_INTEGER a_LONG a_FLOAT a_DOUBLE a_BYTE a_SHORT a_CHARACTER a_BOOLEAN a_BINARY)), .unset] [(.int ((u0 &&& (2147483647 : Int32)) % (10 : Int32)))])) _
          refine XS.ifNo X2.here hx rfl (hb hby at_14) rfl ((if0 _ _).trans (feq hc14).1) ?_
          show Steps p.tables e below (T2.setTop (mkF m 17 #[.val (.int u0), .val (.int ((u0 &&& (2147483647 : Int32)) % (10 : Int32))), .val (.ref (pickA ((u0 &&& (2147483647 : Int32)) % (10 : Int32)) a_STRING a_INTEGER a_LONG a_FLOAT a_DOUBLE a_BYTE a_SHORT a_CHARACTER a_BOOLEAN a_BINARY)), .unset] [])) _
          refine XS.iloadN X2.here hx rfl (hb hby at_17) rfl ?_
          show Steps p.tables e below (T2.setTop (mkF m 18 #[.val (.int u0), .val (.int ((u0 &&& (2147483647 : Int32)) % (10 : Int32))), .val (.ref (pickA ((u0 &&& (2147483647 : Int32)) % (10 : Int32)) a_STRING a_INTEGER a_LONG a_FLOAT a_DOUBLE a_BYTE a_SHORT a_CHARACTER a_BOOLEAN a_BINARY)), .unset] [(.int ((u0 &&& (2147483647 : Int32)) % (10 : Int32)))])) _
          refine XS.bipush X2.here hx rfl (hb hby at_18) ?_
          show Steps p.tables e below (T2.setTop (mkF m 20 #[.val (.int u0), .val (.int ((u0 &&& (2147483647 : Int32)) % (10 : Int32))), .val (.ref (pickA ((u0 &&& (2147483647 : Int32)) % (10 : Int32)) a_STRING a_INTEGER a_LONG a_FLOAT a_DOUBLE a_BYTE a_SHORT a_CHARACTER a_BOOLEAN a_BINARY)), .unset] [(.int (7 : Int32)), (.int ((u0 &&& (2147483647 : Int32)) % (10 : Int32)))])) _
          refine XS.icmpNo X2.here hx rfl (hb hby at_20) rfl (feq hc20).1 ?_
          show Steps p.tables e below (T2.setTop (mkF m 23 #[.val (.int u0), .val (.int ((u0 &&& (2147483647 : Int32)) % (10 : Int32))), .val (.ref (pickA ((u0 &&& (2147483647 : Int32)) % (10 : Int32)) a_STRING a_INTEGER a_LONG a_FLOAT a_DOUBLE a_BYTE a_SHORT a_CHARACTER a_BOOLEAN a_BINARY)), .unset] [])) _
          refine XS.iloadN X2.here hx rfl (hb hby at_23) rfl ?_
          show Steps p.tables e below (T2.setTop (mkF m 24 #[.val (.int u0), .val (.int ((u0 &&& (2147483647 : Int32)) % (10 : Int32))), .val (.ref (pickA ((u0 &&& (2147483647 : Int32)) % (10 : Int32)) a_STRING a_INTEGER a_LONG a_FLOAT a_DOUBLE a_BYTE a_SHORT a_CHARACTER a_BOOLEAN a_BINARY)), .unset] [(.int ((u0 &&& (2147483647 : Int32)) % (10 : Int32)))])) _
          refine XS.bipush X2.here hx rfl (hb hby at_24) ?_
          show Steps p.tables e below (T2.setTop (mkF m 26 #[.val (.int u0), .val (.int ((u0 &&& (2147483647 : Int32)) % (10 : Int32))), .val (.ref (pickA ((u0 &&& (2147483647 : Int32)) % (10 : Int32)) a_STRING a_INTEGER a_LONG a_FLOAT a_DOUBLE a_BYTE a_SHORT a_CHARACTER a_BOOLEAN a_BINARY)), .unset] [(.int (9 : Int32)), (.int ((u0 &&& (2147483647 : Int32)) % (10 : Int32)))])) _
          refine XS.icmpNo X2.here hx rfl (hb hby at_26) rfl (teq hc26).2 ?_
          show Steps p.tables e below (T2.setTop (mkF m 29 #[.val (.int u0), .val (.int ((u0 &&& (2147483647 : Int32)) % (10 : Int32))), .val (.ref (pickA ((u0 &&& (2147483647 : Int32)) % (10 : Int32)) a_STRING a_INTEGER a_LONG a_FLOAT a_DOUBLE a_BYTE a_SHORT a_CHARACTER a_BOOLEAN a_BINARY)), .unset] [])) _
          refine XS.iconst X2.here hx rfl (hb hby at_29) ?_
          show Steps p.tables e below (T2.setTop (mkF m 30 #[.val (.int u0), .val (.int ((u0 &&& (2147483647 : Int32)) % (10 : Int32))), .val (.ref (pickA ((u0 &&& (2147483647 : Int32)) % (10 : Int32)) a_STRING a_INTEGER a_LONG a_FLOAT a_DOUBLE a_BYTE a_SHORT a_CHARACTER a_BOOLEAN a_BINARY)), .unset] [(.int (1 : Int32))])) _
          refine XS.goto X2.here hx rfl (pc0 := 30) (pc' := 34) rfl (hb hby at_30) (by decide) (by decide) ?_
          show Steps p.tables e below (T2.setTop (mkF m 34 #[.val (.int u0), .val (.int ((u0 &&& (2147483647 : Int32)) % (10 : Int32))), .val (.ref (pickA ((u0 &&& (2147483647 : Int32)) % (10 : Int32)) a_STRING a_INTEGER a_LONG a_FLOAT a_DOUBLE a_BYTE a_SHORT a_CHARACTER a_BOOLEAN a_BINARY)), .unset] [(.int (1 : Int32))])) _
          refine XS.istoreN X2.here hx rfl (hb hby at_34) rfl (l' := #[.val (.int u0), .val (.int ((u0 &&& (2147483647 : Int32)) % (10 : Int32))), .val (.ref (pickA ((u0 &&& (2147483647 : Int32)) % (10 : Int32)) a_STRING a_INTEGER a_LONG a_FLOAT a_DOUBLE a_BYTE a_SHORT a_CHARACTER a_BOOLEAN a_BINARY)), .val (.int (1 : Int32))]) rfl ?_
          show Steps p.tables e below (T2.setTop (mkF m 35 #[.val (.int u0), .val (.int ((u0 &&& (2147483647 : Int32)) % (10 : Int32))), .val (.ref (pickA ((u0 &&& (2147483647 : Int32)) % (10 : Int32)) a_STRING a_INTEGER a_LONG a_FLOAT a_DOUBLE a_BYTE a_SHORT a_CHARACTER a_BOOLEAN a_BINARY)), .val (.int (1 : Int32))] [])) _
          refine XS.aloadN X2.here hx rfl (hb hby at_35) rfl rfl ?_
          show Steps p.tables e below (T2.setTop (mkF m 36 #[.val (.int u0), .val (.int ((u0 &&& (2147483647 : Int32)) % (10 : Int32))), .val (.ref (pickA ((u0 &&& (2147483647 : Int32)) % (10 : Int32)) a_STRING a_INTEGER a_LONG a_FLOAT a_DOUBLE a_BYTE a_SHORT a_CHARACTER a_BOOLEAN a_BINARY)), .val (.int (1 : Int32))] [(.ref (pickA ((u0 &&& (2147483647 : Int32)) % (10 : Int32)) a_STRING a_INTEGER a_LONG a_FLOAT a_DOUBLE a_BYTE a_SHORT a_CHARACTER a_BOOLEAN a_BINARY))])) _
          refine st5.trans ?_
          show Steps p.tables e below (T5.setTop (mkF m 39 #[.val (.int u0), .val (.int ((u0 &&& (2147483647 : Int32)) % (10 : Int32))), .val (.ref (pickA ((u0 &&& (2147483647 : Int32)) % (10 : Int32)) a_STRING a_INTEGER a_LONG a_FLOAT a_DOUBLE a_BYTE a_SHORT a_CHARACTER a_BOOLEAN a_BINARY)), .val (.int (1 : Int32))] [(.int (textOf (pickA ((u0 &&& (2147483647 : Int32)) % (10 : Int32)) a_STRING a_INTEGER a_LONG a_FLOAT a_DOUBLE a_BYTE a_SHORT a_CHARACTER a_BOOLEAN a_BINARY) a_STRING a_CHARACTER a_BINARY))])) _
          refine XS.iloadN X5.here hx rfl (hb hby at_39) rfl ?_
          show Steps p.tables e below (T5.setTop (mkF m 40 #[.val (.int u0), .val (.int ((u0 &&& (2147483647 : Int32)) % (10 : Int32))), .val (.ref (pickA ((u0 &&& (2147483647 : Int32)) % (10 : Int32)) a_STRING a_INTEGER a_LONG a_FLOAT a_DOUBLE a_BYTE a_SHORT a_CHARACTER a_BOOLEAN a_BINARY)), .val (.int (1 : Int32))] [(.int (1 : Int32)), (.int (textOf (pickA ((u0 &&& (2147483647 : Int32)) % (10 : Int32)) a_STRING a_INTEGER a_LONG a_FLOAT a_DOUBLE a_BYTE a_SHORT a_CHARACTER a_BOOLEAN a_BINARY) a_STRING a_CHARACTER a_BINARY))])) _
          refine XS.icmpNo X5.here hx rfl (hb hby at_40) rfl (teq hb40).2 ?_
          show Steps p.tables e below (T5.setTop (mkF m 43 #[.val (.int u0), .val (.int ((u0 &&& (2147483647 : Int32)) % (10 : Int32))), .val (.ref (pickA ((u0 &&& (2147483647 : Int32)) % (10 : Int32)) a_STRING a_INTEGER a_LONG a_FLOAT a_DOUBLE a_BYTE a_SHORT a_CHARACTER a_BOOLEAN a_BINARY)), .val (.int (1 : Int32))] [])) _
          refine XS.iconst X5.here hx rfl (hb hby at_43) ?_
          show Steps p.tables e below (T5.setTop (mkF m 44 #[.val (.int u0), .val (.int ((u0 &&& (2147483647 : Int32)) % (10 : Int32))), .val (.ref (pickA ((u0 &&& (2147483647 : Int32)) % (10 : Int32)) a_STRING a_INTEGER a_LONG a_FLOAT a_DOUBLE a_BYTE a_SHORT a_CHARACTER a_BOOLEAN a_BINARY)), .val (.int (1 : Int32))] [(.int (1 : Int32))])) _
          refine XS.goto X5.here hx rfl (pc0 := 44) (pc' := 48) rfl (hb hby at_44) (by decide) (by decide) ?_
          show Steps p.tables e below (T5.setTop (mkF m 48 #[.val (.int u0), .val (.int ((u0 &&& (2147483647 : Int32)) % (10 : Int32))), .val (.ref (pickA ((u0 &&& (2147483647 : Int32)) % (10 : Int32)) a_STRING a_INTEGER a_LONG a_FLOAT a_DOUBLE a_BYTE a_SHORT a_CHARACTER a_BOOLEAN a_BINARY)), .val (.int (1 : Int32))] [(.int (1 : Int32))])) _
          exact retN X5 hx (t := .boolean) Bd.returns (by simp) (hb hby at_48) hr
        · show Q0 Z u0 a_STRING a_INTEGER a_LONG a_FLOAT a_DOUBLE a_BYTE a_SHORT a_CHARACTER a_BOOLEAN a_BINARY h0 n0 _ T5.heap _
          rw [e5]
          exact ⟨rfl, N5⟩
      · obtain ⟨cq6, kq6, q6a, q6b, q6c⟩ := isOf hZ e2 (pick_exa E_STRING E_INTEGER E_LONG E_FLOAT E_DOUBLE E_BYTE E_SHORT E_CHARACTER E_BOOLEAN E_BINARY _)
        obtain ⟨_, _, ⟨T6, L6, k6, n6⟩, -, X6, ⟨Lc6, hQ6, l6, y6, z6⟩, st6⟩ := X2.virtualBack hx (y := (⟨"com/example/compact_settings/compactsettings/ScalarType", "isText", "()Z"⟩ : MethodName)) (z := (⟨"com/example/compact_settings/compactsettings/ScalarType", "isText", "()Z"⟩ : MethodName)) hown (mvT hZ (hw _ (List.mem_of_getElem? (i := 8) rfl))) (mvT hZ (hw _ (List.mem_of_getElem? (i := 9) rfl))) (notFace_of_selects (args := #[]) (mvT hZ (hw _ (List.mem_of_getElem? (i := 11) rfl)))) (mvT hZ (hw _ (List.mem_of_getElem? (i := 11) rfl))) (mvT hZ (hw _ (List.mem_of_getElem? (i := 10) rfl))) (by decide) (backOf (W := 0) (rm2 l Z a0 hw [] (pickA ((u0 &&& (2147483647 : Int32)) % (10 : Int32)) a_STRING a_INTEGER a_LONG a_FLOAT a_DOUBLE a_BYTE a_SHORT a_CHARACTER a_BOOLEAN a_BINARY) a_STRING a_CHARACTER a_BINARY h0 n0 Z0 S_STRING S_CHARACTER S_BINARY) hZ (hw _ (List.mem_of_getElem? (i := 12) rfl)) (hw _ (List.mem_of_getElem? (i := 6) rfl)) (by decide) (by decide)) q6a q6c (g := (mkF m 36 #[.val (.int u0), .val (.int ((u0 &&& (2147483647 : Int32)) % (10 : Int32))), .val (.ref (pickA ((u0 &&& (2147483647 : Int32)) % (10 : Int32)) a_STRING a_INTEGER a_LONG a_FLOAT a_DOUBLE a_BYTE a_SHORT a_CHARACTER a_BOOLEAN a_BINARY)), .val (.int (0 : Int32))] [(.ref (pickA ((u0 &&& (2147483647 : Int32)) % (10 : Int32)) a_STRING a_INTEGER a_LONG a_FLOAT a_DOUBLE a_BYTE a_SHORT a_CHARACTER a_BOOLEAN a_BINARY))])) rfl (by rw [hml]; rfl) (Steps.refl _) (argsL := []) (rest := []) (lenOf pd_0 rfl) rfl (by show 2 * 0 + _ ≤ _; exact Nat.le_of_eq rfl) (hb hby at_36) (fun _ _ => ⟨rfl, e2, (by decide : 0 + 0 ≤ _), (by decide : 0 + 0 ≤ _)⟩)
        dsimp only [Pt.U, Pt.locs, Pt.cells, Pt.slots] at X6 l6 y6 z6 st6 hQ6
        subst l6 y6 z6
        obtain ⟨rfl, N6q, e6⟩ := hQ6
        have N6 := Fr.app N2 N6q
        have hb40 : (textOf (pickA ((u0 &&& (2147483647 : Int32)) % (10 : Int32)) a_STRING a_INTEGER a_LONG a_FLOAT a_DOUBLE a_BYTE a_SHORT a_CHARACTER a_BOOLEAN a_BINARY) a_STRING a_CHARACTER a_BINARY) = (0 : Int32) := by
          obtain ⟨q0, q1⟩ := own_ten u0
          generalize ((u0 &&& (2147483647 : Int32)) % (10 : Int32)) = i at *
          rcases own_nine q0 q1 with rfl | rfl | rfl | rfl | rfl | rfl | rfl | rfl | rfl | rfl <;> first | exact absurd rfl (by assumption) | exact if_neg (by simp [pickA, ne_INTEGER_STRING, ne_INTEGER_CHARACTER, ne_INTEGER_BINARY, ne_LONG_STRING, ne_LONG_CHARACTER, ne_LONG_BINARY, ne_FLOAT_STRING, ne_FLOAT_CHARACTER, ne_FLOAT_BINARY, ne_DOUBLE_STRING, ne_DOUBLE_CHARACTER, ne_DOUBLE_BINARY, ne_BYTE_STRING, ne_BYTE_CHARACTER, ne_BYTE_BINARY, ne_SHORT_STRING, ne_SHORT_CHARACTER, ne_SHORT_BINARY, ne_BOOLEAN_STRING, ne_BOOLEAN_CHARACTER, ne_BOOLEAN_BINARY])
        obtain ⟨fs, hr, hrun, hended, hW, hsame⟩ := X6.leave (v := some (.int (1 : Int32))) (fun h => by rw [Bd.returns] at h; cases h)
        refine ⟨_, _, pre0 _ ?_, hrun, hended, _, _, rfl, ?_, ⟨_, rfl⟩, hW, hsame.mono (by decide) (by decide)⟩
        · show Steps p.tables e below (s₁.setTop (mkF m 0 #[.val (.int u0), .unset, .unset, .unset] [])) _
          refine XS.iloadN X0.here hx rfl (hb hby at_0) rfl ?_
          show Steps p.tables e below (s₁.setTop (mkF m 1 #[.val (.int u0), .unset, .unset, .unset] [(.int u0)])) _
          refine st1 _ ?_
          show Steps p.tables e below (s₁.setTop (mkF m 3 #[.val (.int u0), .unset, .unset, .unset] [(.int (2147483647 : Int32)), (.int u0)])) _
          refine XS.iand X0.here hx rfl (hb hby at_3) rfl ?_
          show Steps p.tables e below (s₁.setTop (mkF m 4 #[.val (.int u0), .unset, .unset, .unset] [(.int (u0 &&& (2147483647 : Int32)))])) _
          refine XS.bipush X0.here hx rfl (hb hby at_4) ?_
          show Steps p.tables e below (s₁.setTop (mkF m 6 #[.val (.int u0), .unset, .unset, .unset] [(.int (10 : Int32)), (.int (u0 &&& (2147483647 : Int32)))])) _
          refine iremM X0 hx rfl (hb hby at_6) rfl (by decide) ?_
          show Steps p.tables e below (s₁.setTop (mkF m 7 #[.val (.int u0), .unset, .unset, .unset] [(.int ((u0 &&& (2147483647 : Int32)) % (10 : Int32)))])) _
          refine XS.istoreN X0.here hx rfl (hb hby at_7) rfl (l' := #[.val (.int u0), .val (.int ((u0 &&& (2147483647 : Int32)) % (10 : Int32))), .unset, .unset]) rfl ?_
          show Steps p.tables e below (s₁.setTop (mkF m 8 #[.val (.int u0), .val (.int ((u0 &&& (2147483647 : Int32)) % (10 : Int32))), .unset, .unset] [])) _
          refine XS.iloadN X0.here hx rfl (hb hby at_8) rfl ?_
          show Steps p.tables e below (s₁.setTop (mkF m 9 #[.val (.int u0), .val (.int ((u0 &&& (2147483647 : Int32)) % (10 : Int32))), .unset, .unset] [(.int ((u0 &&& (2147483647 : Int32)) % (10 : Int32)))])) _
          refine st2 _ ?_
          show Steps p.tables e below (T2.setTop (mkF m 12 #[.val (.int u0), .val (.int ((u0 &&& (2147483647 : Int32)) % (10 : Int32))), .unset, .unset] [(.ref (pickA ((u0 &&& (2147483647 : Int32)) % (10 : Int32)) a_STRING a_INTEGER a_LONG a_FLOAT a_DOUBLE a_BYTE a_SHORT a_CHARACTER a_BOOLEAN a_BINARY))])) _
          refine XS.astoreN X2.here hx rfl (hb hby at_12) rfl rfl (l' := #[.val (.int u0), .val (.int ((u0 &&& (2147483647 : Int32)) % (10 : Int32))), .val (.ref (pickA ((u0 &&& (2147483647 : Int32)) % (10 : Int32)) a_STRING a_INTEGER a_LONG a_FLOAT a_DOUBLE a_BYTE a_SHORT a_CHARACTER a_BOOLEAN a_BINARY)), .unset]) rfl ?_
          show Steps p.tables e below (T2.setTop (mkF m 13 #[.val (.int u0), .val (.int ((u0 &&& (2147483647 : Int32)) % (10 : Int32))), .val (.ref (pickA ((u0 &&& (2147483647 : Int32)) % (10 : Int32)) a_STRING a_INTEGER a_LONG a_FLOAT a_DOUBLE a_BYTE a_SHORT a_CHARACTER a_BOOLEAN a_BINARY)), .unset] [])) _
          refine XS.iloadN X2.here hx rfl (hb hby at_13) rfl ?_
          show Steps p.tables e below (T2.setTop (mkF m 14 #[.val (.int u0), .val (.int ((u0 &&& (2147483647 : Int32)) % (10 : Int32))), .val (.ref (pickA ((u0 &&& (2147483647 : Int32)) % (10 : Int32)) a_STRING a_INTEGER a_LONG a_FLOAT a_DOUBLE a_BYTE a_SHORT a_CHARACTER a_BOOLEAN a_BINARY)), .unset] [(.int ((u0 &&& (2147483647 : Int32)) % (10 : Int32)))])) _
          refine XS.ifNo X2.here hx rfl (hb hby at_14) rfl ((if0 _ _).trans (feq hc14).1) ?_
          show Steps p.tables e below (T2.setTop (mkF m 17 #[.val (.int u0), .val (.int ((u0 &&& (2147483647 : Int32)) % (10 : Int32))), .val (.ref (pickA ((u0 &&& (2147483647 : Int32)) % (10 : Int32)) a_STRING a_INTEGER a_LONG a_FLOAT a_DOUBLE a_BYTE a_SHORT a_CHARACTER a_BOOLEAN a_BINARY)), .unset] [])) _
          refine XS.iloadN X2.here hx rfl (hb hby at_17) rfl ?_
          show Steps p.tables e below (T2.setTop (mkF m 18 #[.val (.int u0), .val (.int ((u0 &&& (2147483647 : Int32)) % (10 : Int32))), .val (.ref (pickA ((u0 &&& (2147483647 : Int32)) % (10 : Int32)) a_STRING a_INTEGER a_LONG a_FLOAT a_DOUBLE a_BYTE a_SHORT a_CHARACTER a_BOOLEAN a_BINARY)), .unset] [(.int ((u0 &&& (2147483647 : Int32)) % (10 : Int32)))])) _
          refine XS.bipush X2.here hx rfl (hb hby at_18) ?_
          show Steps p.tables e below (T2.setTop (mkF m 20 #[.val (.int u0), .val (.int ((u0 &&& (2147483647 : Int32)) % (10 : Int32))), .val (.ref (pickA ((u0 &&& (2147483647 : Int32)) % (10 : Int32)) a_STRING a_INTEGER a_LONG a_FLOAT a_DOUBLE a_BYTE a_SHORT a_CHARACTER a_BOOLEAN a_BINARY)), .unset] [(.int (7 : Int32)), (.int ((u0 &&& (2147483647 : Int32)) % (10 : Int32)))])) _
          refine XS.icmpNo X2.here hx rfl (hb hby at_20) rfl (feq hc20).1 ?_
          show Steps p.tables e below (T2.setTop (mkF m 23 #[.val (.int u0), .val (.int ((u0 &&& (2147483647 : Int32)) % (10 : Int32))), .val (.ref (pickA ((u0 &&& (2147483647 : Int32)) % (10 : Int32)) a_STRING a_INTEGER a_LONG a_FLOAT a_DOUBLE a_BYTE a_SHORT a_CHARACTER a_BOOLEAN a_BINARY)), .unset] [])) _
          refine XS.iloadN X2.here hx rfl (hb hby at_23) rfl ?_
          show Steps p.tables e below (T2.setTop (mkF m 24 #[.val (.int u0), .val (.int ((u0 &&& (2147483647 : Int32)) % (10 : Int32))), .val (.ref (pickA ((u0 &&& (2147483647 : Int32)) % (10 : Int32)) a_STRING a_INTEGER a_LONG a_FLOAT a_DOUBLE a_BYTE a_SHORT a_CHARACTER a_BOOLEAN a_BINARY)), .unset] [(.int ((u0 &&& (2147483647 : Int32)) % (10 : Int32)))])) _
          refine XS.bipush X2.here hx rfl (hb hby at_24) ?_
          show Steps p.tables e below (T2.setTop (mkF m 26 #[.val (.int u0), .val (.int ((u0 &&& (2147483647 : Int32)) % (10 : Int32))), .val (.ref (pickA ((u0 &&& (2147483647 : Int32)) % (10 : Int32)) a_STRING a_INTEGER a_LONG a_FLOAT a_DOUBLE a_BYTE a_SHORT a_CHARACTER a_BOOLEAN a_BINARY)), .unset] [(.int (9 : Int32)), (.int ((u0 &&& (2147483647 : Int32)) % (10 : Int32)))])) _
          refine XS.icmpYes X2.here hx rfl (pc0 := 26) (pc' := 33) rfl (hb hby at_26) rfl (feq hc26).2 (by decide) (by decide) ?_
          show Steps p.tables e below (T2.setTop (mkF m 33 #[.val (.int u0), .val (.int ((u0 &&& (2147483647 : Int32)) % (10 : Int32))), .val (.ref (pickA ((u0 &&& (2147483647 : Int32)) % (10 : Int32)) a_STRING a_INTEGER a_LONG a_FLOAT a_DOUBLE a_BYTE a_SHORT a_CHARACTER a_BOOLEAN a_BINARY)), .unset] [])) _
          refine XS.iconst X2.here hx rfl (hb hby at_33) ?_
          show Steps p.tables e below (T2.setTop (mkF m 34 #[.val (.int u0), .val (.int ((u0 &&& (2147483647 : Int32)) % (10 : Int32))), .val (.ref (pickA ((u0 &&& (2147483647 : Int32)) % (10 : Int32)) a_STRING a_INTEGER a_LONG a_FLOAT a_DOUBLE a_BYTE a_SHORT a_CHARACTER a_BOOLEAN a_BINARY)), .unset] [(.int (0 : Int32))])) _
          refine XS.istoreN X2.here hx rfl (hb hby at_34) rfl (l' := #[.val (.int u0), .val (.int ((u0 &&& (2147483647 : Int32)) % (10 : Int32))), .val (.ref (pickA ((u0 &&& (2147483647 : Int32)) % (10 : Int32)) a_STRING a_INTEGER a_LONG a_FLOAT a_DOUBLE a_BYTE a_SHORT a_CHARACTER a_BOOLEAN a_BINARY)), .val (.int (0 : Int32))]) rfl ?_
          show Steps p.tables e below (T2.setTop (mkF m 35 #[.val (.int u0), .val (.int ((u0 &&& (2147483647 : Int32)) % (10 : Int32))), .val (.ref (pickA ((u0 &&& (2147483647 : Int32)) % (10 : Int32)) a_STRING a_INTEGER a_LONG a_FLOAT a_DOUBLE a_BYTE a_SHORT a_CHARACTER a_BOOLEAN a_BINARY)), .val (.int (0 : Int32))] [])) _
          refine XS.aloadN X2.here hx rfl (hb hby at_35) rfl rfl ?_
          show Steps p.tables e below (T2.setTop (mkF m 36 #[.val (.int u0), .val (.int ((u0 &&& (2147483647 : Int32)) % (10 : Int32))), .val (.ref (pickA ((u0 &&& (2147483647 : Int32)) % (10 : Int32)) a_STRING a_INTEGER a_LONG a_FLOAT a_DOUBLE a_BYTE a_SHORT a_CHARACTER a_BOOLEAN a_BINARY)), .val (.int (0 : Int32))] [(.ref (pickA ((u0 &&& (2147483647 : Int32)) % (10 : Int32)) a_STRING a_INTEGER a_LONG a_FLOAT a_DOUBLE a_BYTE a_SHORT a_CHARACTER a_BOOLEAN a_BINARY))])) _
          refine st6.trans ?_
          show Steps p.tables e below (T6.setTop (mkF m 39 #[.val (.int u0), .val (.int ((u0 &&& (2147483647 : Int32)) % (10 : Int32))), .val (.ref (pickA ((u0 &&& (2147483647 : Int32)) % (10 : Int32)) a_STRING a_INTEGER a_LONG a_FLOAT a_DOUBLE a_BYTE a_SHORT a_CHARACTER a_BOOLEAN a_BINARY)), .val (.int (0 : Int32))] [(.int (textOf (pickA ((u0 &&& (2147483647 : Int32)) % (10 : Int32)) a_STRING a_INTEGER a_LONG a_FLOAT a_DOUBLE a_BYTE a_SHORT a_CHARACTER a_BOOLEAN a_BINARY) a_STRING a_CHARACTER a_BINARY))])) _
          refine XS.iloadN X6.here hx rfl (hb hby at_39) rfl ?_
          show Steps p.tables e below (T6.setTop (mkF m 40 #[.val (.int u0), .val (.int ((u0 &&& (2147483647 : Int32)) % (10 : Int32))), .val (.ref (pickA ((u0 &&& (2147483647 : Int32)) % (10 : Int32)) a_STRING a_INTEGER a_LONG a_FLOAT a_DOUBLE a_BYTE a_SHORT a_CHARACTER a_BOOLEAN a_BINARY)), .val (.int (0 : Int32))] [(.int (0 : Int32)), (.int (textOf (pickA ((u0 &&& (2147483647 : Int32)) % (10 : Int32)) a_STRING a_INTEGER a_LONG a_FLOAT a_DOUBLE a_BYTE a_SHORT a_CHARACTER a_BOOLEAN a_BINARY) a_STRING a_CHARACTER a_BINARY))])) _
          refine XS.icmpNo X6.here hx rfl (hb hby at_40) rfl (teq hb40).2 ?_
          show Steps p.tables e below (T6.setTop (mkF m 43 #[.val (.int u0), .val (.int ((u0 &&& (2147483647 : Int32)) % (10 : Int32))), .val (.ref (pickA ((u0 &&& (2147483647 : Int32)) % (10 : Int32)) a_STRING a_INTEGER a_LONG a_FLOAT a_DOUBLE a_BYTE a_SHORT a_CHARACTER a_BOOLEAN a_BINARY)), .val (.int (0 : Int32))] [])) _
          refine XS.iconst X6.here hx rfl (hb hby at_43) ?_
          show Steps p.tables e below (T6.setTop (mkF m 44 #[.val (.int u0), .val (.int ((u0 &&& (2147483647 : Int32)) % (10 : Int32))), .val (.ref (pickA ((u0 &&& (2147483647 : Int32)) % (10 : Int32)) a_STRING a_INTEGER a_LONG a_FLOAT a_DOUBLE a_BYTE a_SHORT a_CHARACTER a_BOOLEAN a_BINARY)), .val (.int (0 : Int32))] [(.int (1 : Int32))])) _
          refine XS.goto X6.here hx rfl (pc0 := 44) (pc' := 48) rfl (hb hby at_44) (by decide) (by decide) ?_
          show Steps p.tables e below (T6.setTop (mkF m 48 #[.val (.int u0), .val (.int ((u0 &&& (2147483647 : Int32)) % (10 : Int32))), .val (.ref (pickA ((u0 &&& (2147483647 : Int32)) % (10 : Int32)) a_STRING a_INTEGER a_LONG a_FLOAT a_DOUBLE a_BYTE a_SHORT a_CHARACTER a_BOOLEAN a_BINARY)), .val (.int (0 : Int32))] [(.int (1 : Int32))])) _
          exact retN X6 hx (t := .boolean) Bd.returns (by simp) (hb hby at_48) hr
        · show Q0 Z u0 a_STRING a_INTEGER a_LONG a_FLOAT a_DOUBLE a_BYTE a_SHORT a_CHARACTER a_BOOLEAN a_BINARY h0 n0 _ T6.heap _
          rw [e6]
          exact ⟨rfl, N6⟩
set_option maxRecDepth 65536 in
set_option maxHeartbeats 40000000 in
theorem comes_1 {Post : Tables → Env → Array Value → State → Outcome → State → Prop} (hpost : ∀ tb e args s v u, (limb_1_1.after args s (.returned v) u = true ∧ limb_1_2.after args s (.returned v) u = true ∧ True) → FrameEnd s (.returned v) u (Jvm.fieldLocs frame_1_writes args s ++ Jvm.arrayLocs frame_1_arrays args s ++ Jvm.staticLocs frame_1_statics s) 0 0 → Post tb e args s (.returned v) u) :
    ArmFor flags0 classFile x code maxLocals ret World_1 tables_1 room_1 Calls_1 rest_1 Pre_1 Post := by
  intro l hfl _ _ p e ha hc hk s m args below hf hA hF happ hP
  obtain ⟨hcalls, hrest, hpre⟩ := hP
  obtain ⟨-, -, -, hnamed, -, -, -, hat⟩ := (Spec.applies_iff hf).mp happ
  obtain ⟨hg, hn⟩ := and_e (Cond.before_iff.mp (show (Jvm.Cond.and given_1 narrow_1).before args s = true from hpre))
  obtain ⟨g1, g2⟩ := and_e hg
  obtain ⟨g3, g4⟩ := and_e hn
  obtain ⟨g5, g6⟩ := and_e g4
  obtain ⟨g7, g8⟩ := and_e g6
  obtain ⟨g9, g10⟩ := and_e g8
  obtain ⟨g11, g12⟩ := and_e g10
  obtain ⟨g13, g14⟩ := and_e g12
  obtain ⟨g15, g16⟩ := and_e g14
  obtain ⟨g17, g18⟩ := and_e g16
  obtain ⟨g19, g20⟩ := and_e g18
  obtain ⟨g21, g22⟩ := and_e g20
  obtain ⟨g23, g24⟩ := and_e g22
  obtain ⟨g25, g26⟩ := and_e g24
  obtain ⟨g27, g28⟩ := and_e g26
  obtain ⟨g29, g30⟩ := and_e g28
  obtain ⟨g31, g32⟩ := and_e g30
  obtain ⟨g33, g34⟩ := and_e g32
  obtain ⟨g35, g36⟩ := and_e g34
  obtain ⟨g37, g38⟩ := and_e g36
  obtain ⟨g39, g40⟩ := and_e g38
  obtain ⟨w0, rfl⟩ : ∃ w0 : Value, args = #[w0] := by
    have hs : args.size = 1 := by simpa [Cond.value, given_1] using g1
    obtain ⟨L⟩ := args
    match L, hs with
    | [w0], _ => exact ⟨w0, rfl⟩
  have hw := fun d (hd : d ∈ tables_1) => atoms_spec (ws := Jvm.Cond.code x code maxLocals ret :: tables_1) hat d (List.mem_cons_of_mem _ hd)
  have hfit : Fit s := fun {y c} hc i hi => by
    obtain ⟨ha, rfl⟩ := Array.getElem?_eq_some_iff.mp hc
    have q := List.all_eq_true.mp ((Array.all_eq_true_iff_forall_mem.mp hF) _ (Array.getElem_mem ha)) i (List.mem_range.mpr hi)
    simpa [Array.getElem?_eq_getElem hi] using q
  obtain ⟨i0, ei0⟩ := is_v g2
  obtain rfl : w0 = (.int i0) := Option.some.inj ei0
  obtain ⟨a_STRING, ev_STRING⟩ := exa_v g3
  have E_STRING : Exa s s.heap a_STRING "com/example/compact_settings/compactsettings/ScalarType" := Exa.start ev_STRING g3
  have S_STRING : Sta s s.heap "com/example/compact_settings/compactsettings/ScalarType" "STRING" "Lcom/example/compact_settings/compactsettings/ScalarType;" (.ref a_STRING) := Sta.start ev_STRING (Or.inr ⟨(hw _ (List.mem_of_getElem? (i := 6) rfl)), (hw _ (List.mem_of_getElem? (i := 7) rfl))⟩)
  obtain ⟨a_FLOAT, ev_FLOAT⟩ := exa_v g5
  have E_FLOAT : Exa s s.heap a_FLOAT "com/example/compact_settings/compactsettings/ScalarType" := Exa.start ev_FLOAT g5
  have S_FLOAT : Sta s s.heap "com/example/compact_settings/compactsettings/ScalarType" "FLOAT" "Lcom/example/compact_settings/compactsettings/ScalarType;" (.ref a_FLOAT) := Sta.start ev_FLOAT (Or.inr ⟨(hw _ (List.mem_of_getElem? (i := 6) rfl)), (hw _ (List.mem_of_getElem? (i := 15) rfl))⟩)
  obtain ⟨a_CHARACTER, ev_CHARACTER⟩ := exa_v g11
  have E_CHARACTER : Exa s s.heap a_CHARACTER "com/example/compact_settings/compactsettings/ScalarType" := Exa.start ev_CHARACTER g11
  have S_CHARACTER : Sta s s.heap "com/example/compact_settings/compactsettings/ScalarType" "CHARACTER" "Lcom/example/compact_settings/compactsettings/ScalarType;" (.ref a_CHARACTER) := Sta.start ev_CHARACTER (Or.inr ⟨(hw _ (List.mem_of_getElem? (i := 6) rfl)), (hw _ (List.mem_of_getElem? (i := 17) rfl))⟩)
  obtain ⟨a_BINARY, ev_BINARY⟩ := exa_v g15
  have E_BINARY : Exa s s.heap a_BINARY "com/example/compact_settings/compactsettings/ScalarType" := Exa.start ev_BINARY g15
  have S_BINARY : Sta s s.heap "com/example/compact_settings/compactsettings/ScalarType" "BINARY" "Lcom/example/compact_settings/compactsettings/ScalarType;" (.ref a_BINARY) := Sta.start ev_BINARY (Or.inr ⟨(hw _ (List.mem_of_getElem? (i := 6) rfl)), (hw _ (List.mem_of_getElem? (i := 19) rfl))⟩)
  obtain ⟨a_INTEGER, ev_INTEGER⟩ := exa_v g19
  have E_INTEGER : Exa s s.heap a_INTEGER "com/example/compact_settings/compactsettings/ScalarType" := Exa.start ev_INTEGER g19
  have S_INTEGER : Sta s s.heap "com/example/compact_settings/compactsettings/ScalarType" "INTEGER" "Lcom/example/compact_settings/compactsettings/ScalarType;" (.ref a_INTEGER) := Sta.start ev_INTEGER (Or.inr ⟨(hw _ (List.mem_of_getElem? (i := 6) rfl)), (hw _ (List.mem_of_getElem? (i := 21) rfl))⟩)
  obtain ⟨a_DOUBLE, ev_DOUBLE⟩ := exa_v g23
  have E_DOUBLE : Exa s s.heap a_DOUBLE "com/example/compact_settings/compactsettings/ScalarType" := Exa.start ev_DOUBLE g23
  have S_DOUBLE : Sta s s.heap "com/example/compact_settings/compactsettings/ScalarType" "DOUBLE" "Lcom/example/compact_settings/compactsettings/ScalarType;" (.ref a_DOUBLE) := Sta.start ev_DOUBLE (Or.inr ⟨(hw _ (List.mem_of_getElem? (i := 6) rfl)), (hw _ (List.mem_of_getElem? (i := 23) rfl))⟩)
  obtain ⟨a_LONG, ev_LONG⟩ := exa_v g27
  have E_LONG : Exa s s.heap a_LONG "com/example/compact_settings/compactsettings/ScalarType" := Exa.start ev_LONG g27
  have S_LONG : Sta s s.heap "com/example/compact_settings/compactsettings/ScalarType" "LONG" "Lcom/example/compact_settings/compactsettings/ScalarType;" (.ref a_LONG) := Sta.start ev_LONG (Or.inr ⟨(hw _ (List.mem_of_getElem? (i := 6) rfl)), (hw _ (List.mem_of_getElem? (i := 26) rfl))⟩)
  obtain ⟨a_BOOLEAN, ev_BOOLEAN⟩ := exa_v g31
  have E_BOOLEAN : Exa s s.heap a_BOOLEAN "com/example/compact_settings/compactsettings/ScalarType" := Exa.start ev_BOOLEAN g31
  have S_BOOLEAN : Sta s s.heap "com/example/compact_settings/compactsettings/ScalarType" "BOOLEAN" "Lcom/example/compact_settings/compactsettings/ScalarType;" (.ref a_BOOLEAN) := Sta.start ev_BOOLEAN (Or.inr ⟨(hw _ (List.mem_of_getElem? (i := 6) rfl)), (hw _ (List.mem_of_getElem? (i := 28) rfl))⟩)
  obtain ⟨a_BYTE, ev_BYTE⟩ := exa_v g35
  have E_BYTE : Exa s s.heap a_BYTE "com/example/compact_settings/compactsettings/ScalarType" := Exa.start ev_BYTE g35
  have S_BYTE : Sta s s.heap "com/example/compact_settings/compactsettings/ScalarType" "BYTE" "Lcom/example/compact_settings/compactsettings/ScalarType;" (.ref a_BYTE) := Sta.start ev_BYTE (Or.inr ⟨(hw _ (List.mem_of_getElem? (i := 6) rfl)), (hw _ (List.mem_of_getElem? (i := 31) rfl))⟩)
  obtain ⟨a_SHORT, ev_SHORT⟩ := exa_v g39
  have E_SHORT : Exa s s.heap a_SHORT "com/example/compact_settings/compactsettings/ScalarType" := Exa.start ev_SHORT g39
  have S_SHORT : Sta s s.heap "com/example/compact_settings/compactsettings/ScalarType" "SHORT" "Lcom/example/compact_settings/compactsettings/ScalarType;" (.ref a_SHORT) := Sta.start ev_SHORT (Or.inr ⟨(hw _ (List.mem_of_getElem? (i := 6) rfl)), (hw _ (List.mem_of_getElem? (i := 33) rfl))⟩)
  have O_FLOAT : Fld s s.heap a_FLOAT "java/lang/Enum" "ordinal" "I" (.int (3 : Int32)) := own_fld_int g7 ev_FLOAT
  have O_STRING : Fld s s.heap a_STRING "java/lang/Enum" "ordinal" "I" (.int (0 : Int32)) := own_fld_int g9 ev_STRING
  have O_CHARACTER : Fld s s.heap a_CHARACTER "java/lang/Enum" "ordinal" "I" (.int (7 : Int32)) := own_fld_int g13 ev_CHARACTER
  have O_BINARY : Fld s s.heap a_BINARY "java/lang/Enum" "ordinal" "I" (.int (9 : Int32)) := own_fld_int g17 ev_BINARY
  have O_INTEGER : Fld s s.heap a_INTEGER "java/lang/Enum" "ordinal" "I" (.int (1 : Int32)) := own_fld_int g21 ev_INTEGER
  have O_DOUBLE : Fld s s.heap a_DOUBLE "java/lang/Enum" "ordinal" "I" (.int (4 : Int32)) := own_fld_int g25 ev_DOUBLE
  have O_LONG : Fld s s.heap a_LONG "java/lang/Enum" "ordinal" "I" (.int (2 : Int32)) := own_fld_int g29 ev_LONG
  have O_BOOLEAN : Fld s s.heap a_BOOLEAN "java/lang/Enum" "ordinal" "I" (.int (8 : Int32)) := own_fld_int g33 ev_BOOLEAN
  have O_BYTE : Fld s s.heap a_BYTE "java/lang/Enum" "ordinal" "I" (.int (5 : Int32)) := own_fld_int g37 ev_BYTE
  have O_SHORT : Fld s s.heap a_SHORT "java/lang/Enum" "ordinal" "I" (.int (6 : Int32)) := own_fld_int g40 ev_SHORT
  obtain ⟨n, o, h1, h2, h3, _, L, rfl, ⟨rfl, N⟩, hq⟩ := rm0 l s _ hw tables_1 i0 a_STRING a_INTEGER a_LONG a_FLOAT a_DOUBLE a_BYTE a_SHORT a_CHARACTER a_BOOLEAN a_BINARY s.heap s.heap.size (Nat.le_refl _) S_STRING S_INTEGER S_LONG S_FLOAT S_DOUBLE S_BYTE S_SHORT S_CHARACTER S_BOOLEAN S_BINARY E_STRING E_INTEGER E_LONG E_FLOAT E_DOUBLE E_BYTE E_SHORT E_CHARACTER E_BOOLEAN E_BINARY (Fld.ne O_INTEGER O_STRING (by simp)) (Fld.ne O_INTEGER O_CHARACTER (by simp)) (Fld.ne O_INTEGER O_BINARY (by simp)) (Fld.ne O_LONG O_STRING (by simp)) (Fld.ne O_LONG O_CHARACTER (by simp)) (Fld.ne O_LONG O_BINARY (by simp)) (Fld.ne O_FLOAT O_STRING (by simp)) (Fld.ne O_FLOAT O_CHARACTER (by simp)) (Fld.ne O_FLOAT O_BINARY (by simp)) (Fld.ne O_DOUBLE O_STRING (by simp)) (Fld.ne O_DOUBLE O_CHARACTER (by simp)) (Fld.ne O_DOUBLE O_BINARY (by simp)) (Fld.ne O_BYTE O_STRING (by simp)) (Fld.ne O_BYTE O_CHARACTER (by simp)) (Fld.ne O_BYTE O_BINARY (by simp)) (Fld.ne O_SHORT O_STRING (by simp)) (Fld.ne O_SHORT O_CHARACTER (by simp)) (Fld.ne O_SHORT O_BINARY (by simp)) (Fld.ne O_BOOLEAN O_STRING (by simp)) (Fld.ne O_BOOLEAN O_CHARACTER (by simp)) (Fld.ne O_BOOLEAN O_BINARY (by simp)) p e ha hc hk s m _ below hf ((Spec.applies_iff_loose hf).mp happ).1 ⟨rfl, State.Warmed39.refl s, rfl⟩ trivial
  refine ⟨n, _, h1, h2, h3, hpost _ _ _ _ _ _ ⟨Cond.after_iff.mpr rfl, Cond.after_iff.mpr (eq_i res_at (Term.int_eval (1)) rfl), trivial⟩ ⟨hq.1, hq.2.1, (hq.2.2.sift fun y hy => Or.inr (N y hy)).mono (by decide) (by decide)⟩⟩
theorem main_1_1 : Claimed_1_1 := comes_1 fun _ _ _ _ _ _ h hF => ⟨h.1, hF⟩
theorem main_1_2 : Claimed_1_2 := comes_1 fun _ _ _ _ _ _ h hF => ⟨h.2.1, hF⟩
end Jvm.Pilot.@@N@@
namespace Jvm.Pilot.@@N@@
open Jvm Jvm.ClassFile Sem Op Lib Jvm.Free Jvm.Stand Jvm.Pilot.@@N@@.Jvm.D
/-! MADE BY PROGRAM (witnessworld.py) out of the Statement's table words and the real class files: 12 classes; the members and pool entries that the words name. The judged class is class 1, her method 2. -/
namespace start1
open Jvm.ClassFile
def u (s : String) : CpInfo := .utf8 (stringToUtf16 s)
/-- a pool by its gaps: so many unusable entries, then the entry; so many at the end -/
def gap : Nat → List CpInfo → List CpInfo
  | 0, r => r
  | n + 1, r => .unusable :: gap n r
def poolList (es : List (Nat × CpInfo)) (last : Nat) : List CpInfo := es.foldr (fun e r => gap e.1 (e.2 :: r)) (gap last [])
def pool (es : List (Nat × CpInfo)) (last : Nat) : Array CpInfo := ⟨poolList es last⟩
def fileOf (pool : Array CpInfo) (this : Nat) (attrs : Array Attribute := #[]) (ms : Array MethodInfo := #[]) (fl : Nat := 33) (sup : Nat := 0) (ifs : Array Nat := #[]) (fds : Array FieldInfo := #[]) : ClassFile where
  minorVersion := 0
  majorVersion := 65
  constantPool := pool
  accessFlags := fl
  thisClass := this
  superClass := sup
  interfaces := ifs
  fields := fds
  methods := ms
  attributes := attrs
def plain (name : String) (sup : Option ClassId) : Class where
  name := name
  kind := .ordinary
  loader := none
  accessFlags := 33
  super := sup
  interfaces := #[]
  cf := none
  fields := #[]
  methods := #[]
  instanceTypes := #[]
  staticTypes := #[]
  resolved := #[]
  callSites := []
  init := .initialized
  statics := none
  mirror := none

def pool0 : Array CpInfo := pool [(5, u "<init>"), (0, u "()V"), (1, .class_ 10), (1, u "java/lang/Object")] 113

def k0m0 : Method := { name := "<init>", desc := "()V", sig := { parameters := [], returnType := none }, accessFlags := 1, code := none }
/-- java/lang/Object -/
def k0 : Class := { plain "java/lang/Object" none with
  accessFlags := 33
  interfaces := #[]
  cf := some (fileOf pool0 8 #[] #[{ accessFlags := 1, nameIndex := 5, descriptorIndex := 6, attributes := #[] }] 33 0 #[] #[])
  fields := #[]
  methods := #[k0m0]
  instanceTypes := #[]
  staticTypes := #[]
  resolved := Array.replicate 124 none
  statics := none }

def pool1 : Array CpInfo := pool [(2, .class_ 4), (1, u "java/lang/Object"), (0, u "<init>"), (0, u "()V"), (0, .fieldref 8 9), (0, .class_ 10), (0, .nameAndType 11 12), (0, u "com/example/compact_settings/compactsettings/ScalarType"), (0, u "STRING"), (0, u "Lcom/example/compact_settings/compactsettings/ScalarType;"), (0, .fieldref 8 14), (0, .nameAndType 15 12), (0, u "INTEGER"), (0, .fieldref 8 17), (0, .nameAndType 18 12), (0, u "LONG"), (0, .fieldref 8 20), (0, .nameAndType 21 12), (0, u "FLOAT"), (0, .fieldref 8 23), (0, .nameAndType 24 12), (0, u "DOUBLE"), (0, .fieldref 8 26), (0, .nameAndType 27 12), (0, u "BYTE"), (0, .fieldref 8 29), (0, .nameAndType 30 12), (0, u "SHORT"), (0, .fieldref 8 32), (0, .nameAndType 33 12), (0, u "CHARACTER"), (0, .fieldref 8 35), (0, .nameAndType 36 12), (0, u "BOOLEAN"), (0, .fieldref 8 38), (0, .nameAndType 39 12), (0, u "BINARY"), (0, .integer 2147483647), (0, .methodref 42 43), (0, .class_ 44), (0, .nameAndType 45 46), (0, u "com/example/compact_settings/compactsettings/ScalarTypeIsTextPinLaw"), (0, u "pick"), (0, u "(I)Lcom/example/compact_settings/compactsettings/ScalarType;"), (0, .methodref 8 48), (0, .nameAndType 49 50), (0, u "isText"), (0, u "()Z"), (3, u "law"), (0, u "(I)Z")] 2

def k1m0 : Method := { name := "<init>", desc := "()V", sig := { parameters := [], returnType := none }, accessFlags := 2, code := none }
def k1c1 : Code := { maxStack := 2, maxLocals := 1, code := method_2_code, exceptionTable := #[], attributes := #[] }
def k1m1 : Method := { name := "pick", desc := "(I)Lcom/example/compact_settings/compactsettings/ScalarType;", sig := { parameters := [.int], returnType := some (.object "com/example/compact_settings/compactsettings/ScalarType") }, accessFlags := 10, code := some k1c1 }
def k1c2 : Code := { maxStack := 2, maxLocals := 4, code := code, exceptionTable := #[], attributes := #[] }
def k1m2 : Method := { name := "law", desc := "(I)Z", sig := { parameters := [.int], returnType := some .boolean }, accessFlags := 9, code := some k1c2 }
/-- com/example/compact_settings/compactsettings/ScalarTypeIsTextPinLaw -/
def k1 : Class := { plain "com/example/compact_settings/compactsettings/ScalarTypeIsTextPinLaw" (some 0) with
  accessFlags := 49
  interfaces := #[]
  cf := some (fileOf pool1 42 #[] #[{ accessFlags := 2, nameIndex := 5, descriptorIndex := 6, attributes := #[] }, { accessFlags := 10, nameIndex := 45, descriptorIndex := 46, attributes := #[] }, { accessFlags := 9, nameIndex := 54, descriptorIndex := 55, attributes := #[] }] 49 2 #[] #[])
  fields := #[]
  methods := #[k1m0, k1m1, k1m2]
  instanceTypes := #[]
  staticTypes := #[]
  resolved := Array.replicate 58 none
  statics := none }

def pool2 : Array CpInfo := pool [(1, .class_ 2), (0, u "java/lang/constant/Constable"), (0, .class_ 4), (0, u "java/lang/Object")] 6

/-- java/lang/constant/Constable -/
def k2 : Class := { plain "java/lang/constant/Constable" (some 0) with
  accessFlags := 1537
  interfaces := #[]
  cf := some (fileOf pool2 1 #[] #[] 1537 3 #[] #[])
  fields := #[]
  methods := #[]
  instanceTypes := #[]
  staticTypes := #[]
  resolved := Array.replicate 11 none
  statics := none }

def pool3 : Array CpInfo := pool [(1, .class_ 2), (0, u "java/lang/Comparable"), (0, .class_ 4), (0, u "java/lang/Object")] 7

/-- java/lang/Comparable -/
def k3 : Class := { plain "java/lang/Comparable" (some 0) with
  accessFlags := 1537
  interfaces := #[]
  cf := some (fileOf pool3 1 #[] #[] 1537 3 #[] #[])
  fields := #[]
  methods := #[]
  instanceTypes := #[]
  staticTypes := #[]
  resolved := Array.replicate 12 none
  statics := none }

def pool4 : Array CpInfo := pool [(1, .class_ 2), (0, u "java/io/Serializable"), (0, .class_ 4), (0, u "java/lang/Object")] 2

/-- java/io/Serializable -/
def k4 : Class := { plain "java/io/Serializable" (some 0) with
  accessFlags := 1537
  interfaces := #[]
  cf := some (fileOf pool4 1 #[] #[] 1537 3 #[] #[])
  fields := #[]
  methods := #[]
  instanceTypes := #[]
  staticTypes := #[]
  resolved := Array.replicate 7 none
  statics := none }

def pool5 : Array CpInfo := pool [(2, .class_ 4), (1, u "java/lang/Enum"), (0, u "name"), (0, u "Ljava/lang/String;"), (2, u "ordinal"), (0, u "I"), (1, .class_ 14), (1, u "java/lang/Object"), (4, u "hash"), (86, .class_ 108), (1, u "java/lang/Enum$EnumDesc"), (2, .class_ 112), (0, u "java/lang/constant/Constable"), (0, .class_ 114), (0, u "java/lang/Comparable"), (0, .class_ 116), (0, u "java/io/Serializable")] 87

/-- java/lang/Enum -/
def k5 : Class := { plain "java/lang/Enum" (some 0) with
  accessFlags := 1057
  interfaces := #[2, 3, 4]
  cf := some (fileOf pool5 2 #[.nestMembers #[106]] #[] 1057 12 #[111, 113, 115] #[{ accessFlags := 18, nameIndex := 5, descriptorIndex := 6, attributes := #[] }, { accessFlags := 18, nameIndex := 9, descriptorIndex := 10, attributes := #[] }, { accessFlags := 2, nameIndex := 19, descriptorIndex := 10, attributes := #[] }])
  fields := #[{ name := "name", type := (.object "java/lang/String"), accessFlags := 18, slot := 0, constantValue := 0 }, { name := "ordinal", type := .int, accessFlags := 18, slot := 1, constantValue := 0 }, { name := "hash", type := .int, accessFlags := 2, slot := 2, constantValue := 0 }]
  methods := #[]
  instanceTypes := #[(.object "java/lang/String"), .int, .int]
  staticTypes := #[]
  resolved := Array.replicate 204 none
  statics := none }

def pool6 : Array CpInfo := pool [(1, .class_ 2), (0, u "com/example/compact_settings/compactsettings/ScalarType"), (0, .fieldref 1 4), (0, .nameAndType 5 6), (0, u "STRING"), (0, u "Lcom/example/compact_settings/compactsettings/ScalarType;"), (2, u "INTEGER"), (2, u "LONG"), (2, u "FLOAT"), (2, u "DOUBLE"), (2, u "BYTE"), (2, u "SHORT"), (0, .fieldref 1 26), (0, .nameAndType 27 6), (0, u "CHARACTER"), (2, u "BOOLEAN"), (0, .fieldref 1 32), (0, .nameAndType 33 6), (0, u "BINARY"), (2, u "$VALUES"), (0, u "[Lcom/example/compact_settings/compactsettings/ScalarType;"), (6, .class_ 46), (1, u "java/lang/Enum"), (14, u "typeName"), (0, u "Ljava/lang/String;"), (2, u "boxed"), (0, u "Ljava/lang/Class;"), (2, u "primitive"), (7, u "()Z"), (166, u "ZERO"), (0, u "Ljava/util/regex/Pattern;"), (100, u "isText")] 59

def k6c0 : Code := { maxStack := 2, maxLocals := 1, code := prog_38_method_10_code, exceptionTable := #[], attributes := #[] }
def k6m0 : Method := { name := "isText", desc := "()Z", sig := { parameters := [], returnType := some .boolean }, accessFlags := 0, code := some k6c0 }
/-- com/example/compact_settings/compactsettings/ScalarType -/
def k6 : Class := { plain "com/example/compact_settings/compactsettings/ScalarType" (some 5) with
  accessFlags := 16432
  interfaces := #[]
  cf := some (fileOf pool6 1 #[] #[{ accessFlags := 0, nameIndex := 346, descriptorIndex := 77, attributes := #[] }] 16432 44 #[] #[{ accessFlags := 16409, nameIndex := 5, descriptorIndex := 6, attributes := #[] }, { accessFlags := 16409, nameIndex := 9, descriptorIndex := 6, attributes := #[] }, { accessFlags := 16409, nameIndex := 12, descriptorIndex := 6, attributes := #[] }, { accessFlags := 16409, nameIndex := 15, descriptorIndex := 6, attributes := #[] }, { accessFlags := 16409, nameIndex := 18, descriptorIndex := 6, attributes := #[] }, { accessFlags := 16409, nameIndex := 21, descriptorIndex := 6, attributes := #[] }, { accessFlags := 16409, nameIndex := 24, descriptorIndex := 6, attributes := #[] }, { accessFlags := 16409, nameIndex := 27, descriptorIndex := 6, attributes := #[] }, { accessFlags := 16409, nameIndex := 30, descriptorIndex := 6, attributes := #[] }, { accessFlags := 16409, nameIndex := 33, descriptorIndex := 6, attributes := #[] }, { accessFlags := 26, nameIndex := 244, descriptorIndex := 245, attributes := #[] }, { accessFlags := 18, nameIndex := 61, descriptorIndex := 62, attributes := #[] }, { accessFlags := 18, nameIndex := 65, descriptorIndex := 66, attributes := #[] }, { accessFlags := 18, nameIndex := 69, descriptorIndex := 66, attributes := #[] }, { accessFlags := 4122, nameIndex := 36, descriptorIndex := 37, attributes := #[] }])
  fields := #[{ name := "STRING", type := (.object "com/example/compact_settings/compactsettings/ScalarType"), accessFlags := 16409, slot := 0, constantValue := 0 }, { name := "INTEGER", type := (.object "com/example/compact_settings/compactsettings/ScalarType"), accessFlags := 16409, slot := 1, constantValue := 0 }, { name := "LONG", type := (.object "com/example/compact_settings/compactsettings/ScalarType"), accessFlags := 16409, slot := 2, constantValue := 0 }, { name := "FLOAT", type := (.object "com/example/compact_settings/compactsettings/ScalarType"), accessFlags := 16409, slot := 3, constantValue := 0 }, { name := "DOUBLE", type := (.object "com/example/compact_settings/compactsettings/ScalarType"), accessFlags := 16409, slot := 4, constantValue := 0 }, { name := "BYTE", type := (.object "com/example/compact_settings/compactsettings/ScalarType"), accessFlags := 16409, slot := 5, constantValue := 0 }, { name := "SHORT", type := (.object "com/example/compact_settings/compactsettings/ScalarType"), accessFlags := 16409, slot := 6, constantValue := 0 }, { name := "CHARACTER", type := (.object "com/example/compact_settings/compactsettings/ScalarType"), accessFlags := 16409, slot := 7, constantValue := 0 }, { name := "BOOLEAN", type := (.object "com/example/compact_settings/compactsettings/ScalarType"), accessFlags := 16409, slot := 8, constantValue := 0 }, { name := "BINARY", type := (.object "com/example/compact_settings/compactsettings/ScalarType"), accessFlags := 16409, slot := 9, constantValue := 0 }, { name := "ZERO", type := (.object "java/util/regex/Pattern"), accessFlags := 26, slot := 10, constantValue := 0 }, { name := "typeName", type := (.object "java/lang/String"), accessFlags := 18, slot := 3, constantValue := 0 }, { name := "boxed", type := (.object "java/lang/Class"), accessFlags := 18, slot := 4, constantValue := 0 }, { name := "primitive", type := (.object "java/lang/Class"), accessFlags := 18, slot := 5, constantValue := 0 }, { name := "$VALUES", type := (.array (.object "com/example/compact_settings/compactsettings/ScalarType")), accessFlags := 4122, slot := 11, constantValue := 0 }]
  methods := #[k6m0]
  instanceTypes := #[(.object "java/lang/String"), .int, .int, (.object "java/lang/String"), (.object "java/lang/Class"), (.object "java/lang/Class")]
  staticTypes := #[(.object "com/example/compact_settings/compactsettings/ScalarType"), (.object "com/example/compact_settings/compactsettings/ScalarType"), (.object "com/example/compact_settings/compactsettings/ScalarType"), (.object "com/example/compact_settings/compactsettings/ScalarType"), (.object "com/example/compact_settings/compactsettings/ScalarType"), (.object "com/example/compact_settings/compactsettings/ScalarType"), (.object "com/example/compact_settings/compactsettings/ScalarType"), (.object "com/example/compact_settings/compactsettings/ScalarType"), (.object "com/example/compact_settings/compactsettings/ScalarType"), (.object "com/example/compact_settings/compactsettings/ScalarType"), (.object "java/util/regex/Pattern"), (.array (.object "com/example/compact_settings/compactsettings/ScalarType"))]
  resolved := Array.replicate 406 none
  statics := some 0 }

def pool7 : Array CpInfo := pool [(1, u "java/lang/Cloneable"), (0, .class_ 1), (0, u "java/lang/Object"), (0, .class_ 3)] 3

/-- java/lang/Cloneable -/
def k7 : Class := { plain "java/lang/Cloneable" (some 0) with
  accessFlags := 1537
  interfaces := #[]
  cf := some (fileOf pool7 2 #[] #[] 1537 4 #[] #[])
  fields := #[]
  methods := #[]
  instanceTypes := #[]
  staticTypes := #[]
  resolved := Array.replicate 8 none
  statics := none }

/-- the primitive byte -/
def k8 : Class := { plain "byte" none with kind := .primitive 'B', accessFlags := 0x411 }
/-- [B -/
def k9 : Class := { plain "[B" (some 0) with kind := .array 8 .byte, interfaces := #[7, 4], accessFlags := 1041 }

/-- the primitive int -/
def k10 : Class := { plain "int" none with kind := .primitive 'I', accessFlags := 0x411 }
/-- [I -/
def k11 : Class := { plain "[I" (some 0) with kind := .array 10 .int, interfaces := #[7, 4], accessFlags := 1041 }

def heap : Heap := #[{ cls := 6, slots := #[.ref 1, .ref 2, .ref 3, .ref 4, .ref 5, .ref 6, .ref 7, .ref 8, .ref 9, .ref 10, .null, .null], vm := .statics 6 },
  { cls := 6, slots := #[.null, .int 0, .int 0, .null, .null, .null], vm := .none },
  { cls := 6, slots := #[.null, .int 1, .int 0, .null, .null, .null], vm := .none },
  { cls := 6, slots := #[.null, .int 2, .int 0, .null, .null, .null], vm := .none },
  { cls := 6, slots := #[.null, .int 3, .int 0, .null, .null, .null], vm := .none },
  { cls := 6, slots := #[.null, .int 4, .int 0, .null, .null, .null], vm := .none },
  { cls := 6, slots := #[.null, .int 5, .int 0, .null, .null, .null], vm := .none },
  { cls := 6, slots := #[.null, .int 6, .int 0, .null, .null, .null], vm := .none },
  { cls := 6, slots := #[.null, .int 7, .int 0, .null, .null, .null], vm := .none },
  { cls := 6, slots := #[.null, .int 8, .int 0, .null, .null, .null], vm := .none },
  { cls := 6, slots := #[.null, .int 9, .int 0, .null, .null, .null], vm := .none }]
def classes : Array Class := #[k0, k1, k2, k3, k4, k5, k6, k7, k8, k9, k10, k11]
def interned : List (Array UInt16 × Addr) := []
def slotsUsed : Nat := 72
def theMethod : MethodId := ⟨1, 2⟩
def args0 : Array Value := #[.int 5]
def aboutOver (below : List Frame) : State where
  vm := { classes := classes, interned := interned.toArray }
  heap := heap
  slotsUsed := slotsUsed
  threads := #[{ frames := .invoking theMethod args0 :: below }]
def below0 : List Frame := [.native { method := ⟨0, 0⟩, args := #[] }]
def about1 : State := aboutOver below0
def p0 : Program := .bare "" "" ""
def e0 : Env := launch0.env 0 0 0
theorem w_frames : about1.frames = Frame.invoking theMethod args0 :: below0 := rfl
set_option maxRecDepth 65536 in
theorem w_args : argsFit about1.vm theMethod args0 = true := by decide +kernel
set_option maxRecDepth 65536 in
theorem w_heap : heapFits about1 = true := by decide +kernel
set_option maxRecDepth 65536 in
theorem w_runnable : about1.curStatus? = some .runnable := by decide +kernel
set_option maxRecDepth 65536 in
theorem w_alone : about1.alone = true := by decide +kernel
set_option maxRecDepth 65536 in
theorem w_named : about1.methodNamed? x = some theMethod := by decide +kernel
set_option maxRecDepth 65536 in
theorem w_hears : about1.hears theMethod below0 = true := by decide +kernel
set_option maxRecDepth 65536 in
theorem w_ripe : about1.ripe theMethod args0 below0 = true := by decide +kernel
theorem w_running : about1.status = .running := rfl
set_option maxRecDepth 65536 in
theorem w_room : about1.hasRoom e0.platform room_1 = true :=
  launch0.hasRoom_least _ room_1 (by decide +kernel) (by decide +kernel) (by decide +kernel) (by decide +kernel) (by decide +kernel) (by decide +kernel)
theorem allAtoms_all (ts : List Jvm.Cond) (a : Array Jvm.Value) (st : Jvm.State) : (allAtoms ts).before a st = ts.all (fun c => c.before a st) := by
  induction ts with
  | nil => rfl
  | cons c t ih =>
    show (Jvm.Cond.and c (allAtoms t)).before a st = _
    rw [Jvm.Cond.before_and, ih, List.all_cons]
def words1 : List Jvm.Cond := Jvm.Cond.code x code maxLocals ret :: tables_1
/-- a 'code' word, met by the world's own term for the bytes: nothing is compared byte by byte -/
theorem code_word {y : MethodName} {bytes : ByteArray} {mx : Nat} {rt : Option FieldType} {a : Array Value} {s : State} {m : MethodId} {meth : Method} {c : Code} (h1 : s.methodNamed? y = some m) (h2 : s.vm.method? m = some meth) (h3 : meth.code = some c) (h4 : c.code = bytes)
    (h5 : (c.maxLocals == mx && c.exceptionTable.isEmpty && decide (c.maxStack ≤ mostOperands) && decide (meth.sig.returnType = rt) && !meth.locks && decide (parseMethodDescriptor y.desc = some meth.sig)) = true) : (Jvm.Cond.code y bytes mx rt).before a s = true := by
  simp only [Bool.and_eq_true, beq_iff_eq, Bool.not_eq_true', decide_eq_true_eq] at h5
  obtain ⟨⟨⟨⟨⟨g1, g2⟩, g3⟩, g4⟩, g5⟩, g6⟩ := h5
  simp [Cond.before, Cond.holds, Cond.value, h1, h2, h3, h4, g1, g2, g3, g4, g5, g6]
def isCode : Jvm.Cond → Bool
  | .code _ _ _ _ => true
  | _ => false
theorem all_split {L : List Jvm.Cond} {P : Jvm.Cond → Bool} (h1 : L.all (fun c => isCode c || P c) = true) (h2 : ∀ c ∈ L.filter isCode, P c = true) : L.all P = true := by
  refine List.all_eq_true.mpr fun c hc => ?_
  have h := List.all_eq_true.mp h1 c hc
  rcases Bool.eq_false_or_eq_true (isCode c) with hi | hi
  · exact h2 c (List.mem_filter.mpr ⟨hc, hi⟩)
  · simpa [hi] using h
set_option maxRecDepth 65536 in
theorem w_c0 : (Jvm.Cond.code x code maxLocals ret).before args0 about1 = true := code_word (m := ⟨1, 2⟩) (meth := k1m2) (c := k1c2) (by decide +kernel) rfl rfl rfl (by decide +kernel)
set_option maxRecDepth 65536 in
theorem w_c1 : (Jvm.Cond.code ({ cls := "com/example/compact_settings/compactsettings/ScalarTypeIsTextPinLaw", name := "pick", desc := "(I)Lcom/example/compact_settings/compactsettings/ScalarType;" } : Jvm.MethodName) method_2_code (1 : Nat) (Option.some (Jvm.ClassFile.FieldType.object "com/example/compact_settings/compactsettings/ScalarType"))).before args0 about1 = true := code_word (m := ⟨1, 1⟩) (meth := k1m1) (c := k1c1) (by decide +kernel) rfl rfl rfl (by decide +kernel)
set_option maxRecDepth 65536 in
theorem w_c2 : (Jvm.Cond.code ({ cls := "com/example/compact_settings/compactsettings/ScalarType", name := "isText", desc := "()Z" } : Jvm.MethodName) prog_38_method_10_code (1 : Nat) (Option.some Jvm.ClassFile.FieldType.boolean)).before args0 about1 = true := code_word (m := ⟨6, 0⟩) (meth := k6m0) (c := k6c0) (by decide +kernel) rfl rfl rfl (by decide +kernel)
def codes1 : List Jvm.Cond := [Jvm.Cond.code x code maxLocals ret, Jvm.Cond.code ({ cls := "com/example/compact_settings/compactsettings/ScalarTypeIsTextPinLaw", name := "pick", desc := "(I)Lcom/example/compact_settings/compactsettings/ScalarType;" } : Jvm.MethodName) method_2_code (1 : Nat) (Option.some (Jvm.ClassFile.FieldType.object "com/example/compact_settings/compactsettings/ScalarType")), Jvm.Cond.code ({ cls := "com/example/compact_settings/compactsettings/ScalarType", name := "isText", desc := "()Z" } : Jvm.MethodName) prog_38_method_10_code (1 : Nat) (Option.some Jvm.ClassFile.FieldType.boolean)]
set_option maxRecDepth 65536 in
theorem codes_eq : words1.filter isCode = codes1 := rfl
theorem w_codes : ∀ c ∈ words1.filter isCode, c.before args0 about1 = true := by
  rw [codes_eq]
  intro c hc
  simp only [codes1, List.mem_cons, List.not_mem_nil, or_false] at hc
  rcases hc with rfl | rfl | rfl
  · exact w_c0
  · exact w_c1
  · exact w_c2
set_option maxRecDepth 65536 in
theorem w_t1 : (words1.take 24).all (fun c => isCode c || c.before args0 about1) = true := by decide +kernel
set_option maxRecDepth 65536 in
theorem w_t2 : (words1.drop 24).all (fun c => isCode c || c.before args0 about1) = true := by decide +kernel
theorem w_tables : (allAtoms (Jvm.Cond.code x code maxLocals ret :: tables_1)).before args0 about1 = true := by
  rw [allAtoms_all]
  show words1.all (fun c => c.before args0 about1) = true
  refine all_split ?_ w_codes
  rw [← List.take_append_drop 24 words1, List.all_append, w_t1, w_t2]
  rfl
set_option maxRecDepth 65536 in
theorem w_case : (Jvm.Cond.and given_1 narrow_1).before args0 about1 = true := by decide +kernel
theorem w_applies : (headSpec (Jvm.Cond.code x code maxLocals ret :: tables_1) room_1).applies x e0.platform about1 = true :=
  (Spec.applies_iff w_frames).mpr ⟨w_running, w_runnable, w_alone, w_named, w_hears, w_ripe, w_room, w_tables⟩
theorem atStart : AtStart classFile x code maxLocals ret World_1 tables_1 room_1 Calls_1 rest_1 Pre_1 launch0 p0 e0 about1 theMethod args0 below0 :=
  ⟨lists_1, trivial, launch0.admits_env _ _ _, launch0.least_env, fairChoices_fair.cas, fairChoices_fair.clock, w_frames, w_args, w_heap, w_applies, trivial, trivial, w_case⟩
end start1
theorem witness_1 : WitnessClaimed_1 := ⟨start1.p0, start1.e0, start1.about1, start1.theMethod, start1.args0, start1.below0, start1.atStart⟩
end Jvm.Pilot.@@N@@
