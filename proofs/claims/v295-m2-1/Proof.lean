import JvmDerived
import JvmDerived.Pilot.@@N@@Statement
import JvmDerived.Pilot.@@N@@Code
set_option linter.unusedVariables false
set_option linter.unusedSimpArgs false
@@BLOCK:NumsL.lean.txt@@
namespace Jvm.RoadKit
open Sem ClassFile Op Lib Jvm.Stand Jvm.Free Jvm.LawKit
section New
variable {p : Program} {l : Launch} {e : Env} {R : Room} {s : State} {m : MethodId} {args : Array Value} {below : List Frame} {meth : Method} {c : Code} {T : State} {locs : List Loc} {cells slots : Nat}
theorem retI (X : Stand p l e R s m args below meth c T locs cells slots) (hx : p.tables.exec = Jvm.exec) {pc : Nat} {Ls : Array Slot} {z : Int32} {rest : List Value} (hret : meth.sig.returnType = some .int) (hd : decode c.code pc = .ok (.ireturn, 1)) {fs : List Frame}
    (hl : ∀ (f : JFrame) (acts : List Action), f.method = m → f.locked = none → f.entered = [] → (doReturn e (T.setTop f) acts (some (.int z))).1 = T.setFrames fs) : Steps p.tables e below (T.setTop (mkF m pc Ls (.int z :: rest))) (T.setFrames fs) := by
  have hm' : T.vm.method? m = some meth := X.method'
  have hn : narrow .int (.int z) = .int z := rfl
  show Steps p.tables e below (T.setTop { method := m, pc := pc, locals := Ls, stack := _ :: rest, locked := none }) _
  jvm_step X.here [X.here.top, hx, hd, hm', hret, hn]
  first | (intro acts; rw [hl _ acts rfl rfl rfl]) | rw [hl _ _ rfl rfl rfl]
  exact Steps.refl _
end New
end Jvm.RoadKit
namespace Jvm.Pilot.@@N@@
open Jvm Jvm.ClassFile Sem Op Lib Jvm.Free Jvm.Stand Jvm.LawKit Jvm.RoadKit Bundle Jvm.Pilot.@@N@@.Jvm.D
def isWs (u : Int32) : Int32 := if u = 32 ∨ u = 9 ∨ u = 12 then 1 else 0
def maskL (u : Int32) : Int32 := lcmpW (((1 : Int64) <<< (u &&& 0x3f).toInt64) &&& (4294971904 : Int64)) (0 : Int64)
theorem own_u16 (z : UInt16) : z.toUInt32.toInt32.toInt = (z.toNat : Int) := by
  have h : z.toNat < 65536 := z.toNat_lt
  have e : z.toUInt32.toBitVec.toNat = z.toNat := by simp
  show z.toUInt32.toBitVec.toInt = _
  rw [BitVec.toInt_eq_toNat_of_lt (by rw [e]; omega), e]
theorem own_nn (y : Int32) : 0 ≤ (y.toUInt32.toUInt16.toUInt32.toInt32).toInt := by rw [own_u16]; omega
theorem own_all : ∀ k : Fin 33, (maskL (Int32.ofNat k.val) = 0 → isWs (Int32.ofNat k.val) = 0) ∧ (¬ maskL (Int32.ofNat k.val) = 0 → isWs (Int32.ofNat k.val) = 1) := by decide +kernel
theorem own_in {u : Int32} (h0 : 0 ≤ u.toInt) (h : ¬ (32 : Int32) < u) : ∃ k : Fin 33, u = Int32.ofNat k.val := by
  rw [Int32.lt_iff_toInt_lt, show (32 : Int32).toInt = 32 from by decide] at h
  refine ⟨⟨u.toInt.toNat, by omega⟩, ?_⟩
  apply Int32.toInt_inj.mp
  rw [Int32.toInt_ofNat_small (by show u.toInt.toNat < 2 ^ 31; omega)]
  show u.toInt = (u.toInt.toNat : Int)
  omega
theorem ws_lo0 {u : Int32} (h0 : 0 ≤ u.toInt) (h : ¬ (32 : Int32) < u) (hm : maskL u = 0) : isWs u = 0 := by
  obtain ⟨k, rfl⟩ := own_in h0 h
  exact (own_all k).1 hm
theorem ws_lo1 {u : Int32} (h0 : 0 ≤ u.toInt) (h : ¬ (32 : Int32) < u) (hm : ¬ maskL u = 0) : isWs u = 1 := by
  obtain ⟨k, rfl⟩ := own_in h0 h
  exact (own_all k).2 hm
theorem ws_hi {u : Int32} (h : (32 : Int32) < u) : isWs u = 0 := by
  unfold isWs
  refine if_neg ?_
  rintro (rfl | rfl | rfl) <;> exact absurd h (by decide)
theorem d1_0 : decode prog_77_method_4_code 0 = .ok (.iload_n 0, 1) := by decide +kernel
theorem d1_1 : decode prog_77_method_4_code 1 = .ok (.bipush 32, 2) := by decide +kernel
theorem d1_3 : decode prog_77_method_4_code 3 = .ok (.if_icmp .eq 15, 3) := by decide +kernel
theorem d1_6 : decode prog_77_method_4_code 6 = .ok (.iload_n 0, 1) := by decide +kernel
theorem d1_7 : decode prog_77_method_4_code 7 = .ok (.bipush 9, 2) := by decide +kernel
theorem d1_9 : decode prog_77_method_4_code 9 = .ok (.if_icmp .eq 9, 3) := by decide +kernel
theorem d1_12 : decode prog_77_method_4_code 12 = .ok (.iload_n 0, 1) := by decide +kernel
theorem d1_13 : decode prog_77_method_4_code 13 = .ok (.bipush 12, 2) := by decide +kernel
theorem d1_15 : decode prog_77_method_4_code 15 = .ok (.if_icmp .ne 7, 3) := by decide +kernel
theorem d1_18 : decode prog_77_method_4_code 18 = .ok (.iconst 1, 1) := by decide +kernel
theorem d1_19 : decode prog_77_method_4_code 19 = .ok (.goto 4, 3) := by decide +kernel
theorem d1_22 : decode prog_77_method_4_code 22 = .ok (.iconst 0, 1) := by decide +kernel
theorem d1_23 : decode prog_77_method_4_code 23 = .ok (.ireturn, 1) := by decide +kernel
theorem pn_com_example_compact_settings_compactsettings_text_ContinuedLines : plainName "com/example/compact_settings/compactsettings/text/ContinuedLines" = true := by first | (simp [plainName, overriddenIn]; done) | decide +kernel
theorem ef_1 (m : MethodId) (u0 : Int32) : entryFrame m #[(.int u0)] 1 = mkF m 0 #[.val (.int u0)] [] := by first | (simp [entryFrame, mkF, argsToLocals, Value.category]; done) | rfl
def Q1 (Z : State) (u0 : Int32) (h0 : Heap) (n0 : Nat) (v : Option Value) (h : Heap) (L : List Loc) : Prop := v = some (.int (isWs u0)) ∧ Fr n0 L ∧ h = h0
set_option maxRecDepth 65536 in
set_option maxHeartbeats 40000000 in
theorem rm1 (l : Launch) (Z : State) (a0 : Array Value) (hw : ∀ d ∈ tables_1, d.before a0 Z = true) (ws : List Jvm.Cond) (u0 : Int32) (h0 : Heap) (n0 : Nat) (Z0 : n0 ≤ h0.size) :
    MetFree l (⟨"com/example/compact_settings/compactsettings/text/ContinuedLines", "isWhiteSpace", "(C)Z"⟩ : MethodName) (head1 (Jvm.Cond.code (⟨"com/example/compact_settings/compactsettings/text/ContinuedLines", "isWhiteSpace", "(C)Z"⟩ : MethodName) prog_77_method_4_code 1 (some .boolean) :: ws) ({ frames := 0, cells := 0, slots := 0, locals := 0 } : Room)) (fun a U => a = #[(.int u0)] ∧ Z.Warmed39 U.vm ∧ U.heap = h0) (fun _ _ _ _ _ => True) (fun _ U o U' => ∃ v L, o = .returned v ∧ Q1 Z u0 h0 n0 v U'.heap L ∧ FrameEnd U o U' L ({ frames := 0, cells := 0, slots := 0, locals := 0 } : Room).cells ({ frames := 0, cells := 0, slots := 0, locals := 0 } : Room).slots) := by
  refine MetFree.of_bodySF (plainFor_of_name pn_com_example_compact_settings_compactsettings_text_ContinuedLines) hisR ?_
  intro p e s m args below meth c s₁ Bd hml0 hP hK
  obtain ⟨rfl, hZ, hh⟩ := hP
  have hx := Bd.exec
  have hby := Bd.bytes
  have hml : c.maxLocals = 1 := hml0
  have hown : s.vm.findClass "com/example/compact_settings/compactsettings/text/ContinuedLines" = some m.cls := findClass_of_methodNamed Bd.named
  have hnm := (name_of_methodNamed Bd.named Bd.method).1
  have X0 : Stand p l e ({ frames := 0, cells := 0, slots := 0, locals := 0 } : Room) s m #[(.int u0)] below meth c s₁ [] 0 0 := Stand.of_body Bd
  have e0 : s₁.heap = h0 := by rw [← hh, Bd.state]; rfl
  have N0 := Fr.nil n0
  have pre0 : ∀ t, Steps p.tables e below (s₁.setTop (mkF m 0 #[.val (.int u0)] [])) t → Steps p.tables e below (s₁.setTop (entryFrame m #[(.int u0)] 1)) t := fun t k => castTop (ef_1 m u0) k
  by_cases hc3 : u0 = (32 : Int32)
  · have hv : isWs u0 = (1 : Int32) := by
      unfold isWs
      exact if_pos (by simp [hc3])
    obtain ⟨fs, hr, hrun, hended, hW, hsame⟩ := X0.leave (v := some (.int (1 : Int32))) (fun h => by rw [Bd.returns] at h; cases h)
    refine ⟨_, _, pre0 _ ?_, hrun, hended, _, _, rfl, ?_, ⟨_, rfl⟩, hW, hsame.mono (by decide) (by decide)⟩
    · show Steps p.tables e below (s₁.setTop (mkF m 0 #[.val (.int u0)] [])) _
      refine XS.iloadN X0.here hx rfl (hb hby d1_0) rfl ?_
      show Steps p.tables e below (s₁.setTop (mkF m 1 #[.val (.int u0)] [(.int u0)])) _
      refine XS.bipush X0.here hx rfl (hb hby d1_1) ?_
      show Steps p.tables e below (s₁.setTop (mkF m 3 #[.val (.int u0)] [(.int (32 : Int32)), (.int u0)])) _
      refine XS.icmpYes X0.here hx rfl (pc0 := 3) (pc' := 18) rfl (hb hby d1_3) rfl (teq hc3).1 (by decide) (by decide) ?_
      show Steps p.tables e below (s₁.setTop (mkF m 18 #[.val (.int u0)] [])) _
      refine XS.iconst X0.here hx rfl (hb hby d1_18) ?_
      show Steps p.tables e below (s₁.setTop (mkF m 19 #[.val (.int u0)] [(.int (1 : Int32))])) _
      refine XS.goto X0.here hx rfl (pc0 := 19) (pc' := 23) rfl (hb hby d1_19) (by decide) (by decide) ?_
      show Steps p.tables e below (s₁.setTop (mkF m 23 #[.val (.int u0)] [(.int (1 : Int32))])) _
      exact retN X0 hx (t := .boolean) Bd.returns (by simp) (hb hby d1_23) hr
    · show Q1 Z u0 h0 n0 _ s₁.heap _
      rw [e0]
      exact ⟨(by rw [hv]), N0, rfl⟩
  · by_cases hc9 : u0 = (9 : Int32)
    · have hv : isWs u0 = (1 : Int32) := by
        unfold isWs
        exact if_pos (by simp [hc3, hc9])
      obtain ⟨fs, hr, hrun, hended, hW, hsame⟩ := X0.leave (v := some (.int (1 : Int32))) (fun h => by rw [Bd.returns] at h; cases h)
      refine ⟨_, _, pre0 _ ?_, hrun, hended, _, _, rfl, ?_, ⟨_, rfl⟩, hW, hsame.mono (by decide) (by decide)⟩
      · show Steps p.tables e below (s₁.setTop (mkF m 0 #[.val (.int u0)] [])) _
        refine XS.iloadN X0.here hx rfl (hb hby d1_0) rfl ?_
        show Steps p.tables e below (s₁.setTop (mkF m 1 #[.val (.int u0)] [(.int u0)])) _
        refine XS.bipush X0.here hx rfl (hb hby d1_1) ?_
        show Steps p.tables e below (s₁.setTop (mkF m 3 #[.val (.int u0)] [(.int (32 : Int32)), (.int u0)])) _
        refine XS.icmpNo X0.here hx rfl (hb hby d1_3) rfl (feq hc3).1 ?_
        show Steps p.tables e below (s₁.setTop (mkF m 6 #[.val (.int u0)] [])) _
        refine XS.iloadN X0.here hx rfl (hb hby d1_6) rfl ?_
        show Steps p.tables e below (s₁.setTop (mkF m 7 #[.val (.int u0)] [(.int u0)])) _
        refine XS.bipush X0.here hx rfl (hb hby d1_7) ?_
        show Steps p.tables e below (s₁.setTop (mkF m 9 #[.val (.int u0)] [(.int (9 : Int32)), (.int u0)])) _
        refine XS.icmpYes X0.here hx rfl (pc0 := 9) (pc' := 18) rfl (hb hby d1_9) rfl (teq hc9).1 (by decide) (by decide) ?_
        show Steps p.tables e below (s₁.setTop (mkF m 18 #[.val (.int u0)] [])) _
        refine XS.iconst X0.here hx rfl (hb hby d1_18) ?_
        show Steps p.tables e below (s₁.setTop (mkF m 19 #[.val (.int u0)] [(.int (1 : Int32))])) _
        refine XS.goto X0.here hx rfl (pc0 := 19) (pc' := 23) rfl (hb hby d1_19) (by decide) (by decide) ?_
        show Steps p.tables e below (s₁.setTop (mkF m 23 #[.val (.int u0)] [(.int (1 : Int32))])) _
        exact retN X0 hx (t := .boolean) Bd.returns (by simp) (hb hby d1_23) hr
      · show Q1 Z u0 h0 n0 _ s₁.heap _
        rw [e0]
        exact ⟨(by rw [hv]), N0, rfl⟩
    · by_cases hc15 : u0 = (12 : Int32)
      · have hv : isWs u0 = (1 : Int32) := by
          unfold isWs
          exact if_pos (by simp [hc3, hc9, hc15])
        obtain ⟨fs, hr, hrun, hended, hW, hsame⟩ := X0.leave (v := some (.int (1 : Int32))) (fun h => by rw [Bd.returns] at h; cases h)
        refine ⟨_, _, pre0 _ ?_, hrun, hended, _, _, rfl, ?_, ⟨_, rfl⟩, hW, hsame.mono (by decide) (by decide)⟩
        · show Steps p.tables e below (s₁.setTop (mkF m 0 #[.val (.int u0)] [])) _
          refine XS.iloadN X0.here hx rfl (hb hby d1_0) rfl ?_
          show Steps p.tables e below (s₁.setTop (mkF m 1 #[.val (.int u0)] [(.int u0)])) _
          refine XS.bipush X0.here hx rfl (hb hby d1_1) ?_
          show Steps p.tables e below (s₁.setTop (mkF m 3 #[.val (.int u0)] [(.int (32 : Int32)), (.int u0)])) _
          refine XS.icmpNo X0.here hx rfl (hb hby d1_3) rfl (feq hc3).1 ?_
          show Steps p.tables e below (s₁.setTop (mkF m 6 #[.val (.int u0)] [])) _
          refine XS.iloadN X0.here hx rfl (hb hby d1_6) rfl ?_
          show Steps p.tables e below (s₁.setTop (mkF m 7 #[.val (.int u0)] [(.int u0)])) _
          refine XS.bipush X0.here hx rfl (hb hby d1_7) ?_
          show Steps p.tables e below (s₁.setTop (mkF m 9 #[.val (.int u0)] [(.int (9 : Int32)), (.int u0)])) _
          refine XS.icmpNo X0.here hx rfl (hb hby d1_9) rfl (feq hc9).1 ?_
          show Steps p.tables e below (s₁.setTop (mkF m 12 #[.val (.int u0)] [])) _
          refine XS.iloadN X0.here hx rfl (hb hby d1_12) rfl ?_
          show Steps p.tables e below (s₁.setTop (mkF m 13 #[.val (.int u0)] [(.int u0)])) _
          refine XS.bipush X0.here hx rfl (hb hby d1_13) ?_
          show Steps p.tables e below (s₁.setTop (mkF m 15 #[.val (.int u0)] [(.int (12 : Int32)), (.int u0)])) _
          refine XS.icmpNo X0.here hx rfl (hb hby d1_15) rfl (teq hc15).2 ?_
          show Steps p.tables e below (s₁.setTop (mkF m 18 #[.val (.int u0)] [])) _
          refine XS.iconst X0.here hx rfl (hb hby d1_18) ?_
          show Steps p.tables e below (s₁.setTop (mkF m 19 #[.val (.int u0)] [(.int (1 : Int32))])) _
          refine XS.goto X0.here hx rfl (pc0 := 19) (pc' := 23) rfl (hb hby d1_19) (by decide) (by decide) ?_
          show Steps p.tables e below (s₁.setTop (mkF m 23 #[.val (.int u0)] [(.int (1 : Int32))])) _
          exact retN X0 hx (t := .boolean) Bd.returns (by simp) (hb hby d1_23) hr
        · show Q1 Z u0 h0 n0 _ s₁.heap _
          rw [e0]
          exact ⟨(by rw [hv]), N0, rfl⟩
      · have hv : isWs u0 = (0 : Int32) := by
          unfold isWs
          exact if_neg (by simp [hc3, hc9, hc15])
        obtain ⟨fs, hr, hrun, hended, hW, hsame⟩ := X0.leave (v := some (.int (0 : Int32))) (fun h => by rw [Bd.returns] at h; cases h)
        refine ⟨_, _, pre0 _ ?_, hrun, hended, _, _, rfl, ?_, ⟨_, rfl⟩, hW, hsame.mono (by decide) (by decide)⟩
        · show Steps p.tables e below (s₁.setTop (mkF m 0 #[.val (.int u0)] [])) _
          refine XS.iloadN X0.here hx rfl (hb hby d1_0) rfl ?_
          show Steps p.tables e below (s₁.setTop (mkF m 1 #[.val (.int u0)] [(.int u0)])) _
          refine XS.bipush X0.here hx rfl (hb hby d1_1) ?_
          show Steps p.tables e below (s₁.setTop (mkF m 3 #[.val (.int u0)] [(.int (32 : Int32)), (.int u0)])) _
          refine XS.icmpNo X0.here hx rfl (hb hby d1_3) rfl (feq hc3).1 ?_
          show Steps p.tables e below (s₁.setTop (mkF m 6 #[.val (.int u0)] [])) _
          refine XS.iloadN X0.here hx rfl (hb hby d1_6) rfl ?_
          show Steps p.tables e below (s₁.setTop (mkF m 7 #[.val (.int u0)] [(.int u0)])) _
          refine XS.bipush X0.here hx rfl (hb hby d1_7) ?_
          show Steps p.tables e below (s₁.setTop (mkF m 9 #[.val (.int u0)] [(.int (9 : Int32)), (.int u0)])) _
          refine XS.icmpNo X0.here hx rfl (hb hby d1_9) rfl (feq hc9).1 ?_
          show Steps p.tables e below (s₁.setTop (mkF m 12 #[.val (.int u0)] [])) _
          refine XS.iloadN X0.here hx rfl (hb hby d1_12) rfl ?_
          show Steps p.tables e below (s₁.setTop (mkF m 13 #[.val (.int u0)] [(.int u0)])) _
          refine XS.bipush X0.here hx rfl (hb hby d1_13) ?_
          show Steps p.tables e below (s₁.setTop (mkF m 15 #[.val (.int u0)] [(.int (12 : Int32)), (.int u0)])) _
          refine XS.icmpYes X0.here hx rfl (pc0 := 15) (pc' := 22) rfl (hb hby d1_15) rfl (feq hc15).2 (by decide) (by decide) ?_
          show Steps p.tables e below (s₁.setTop (mkF m 22 #[.val (.int u0)] [])) _
          refine XS.iconst X0.here hx rfl (hb hby d1_22) ?_
          show Steps p.tables e below (s₁.setTop (mkF m 23 #[.val (.int u0)] [(.int (0 : Int32))])) _
          exact retN X0 hx (t := .boolean) Bd.returns (by simp) (hb hby d1_23) hr
        · show Q1 Z u0 h0 n0 _ s₁.heap _
          rw [e0]
          exact ⟨(by rw [hv]), N0, rfl⟩
theorem pd_0 : parseMethodDescriptor "(C)Z" = some ⟨[.char], some .boolean⟩ := by decide +kernel
theorem pn_com_example_compact_settings_compactsettings_text_ContinuedLinesIsWhiteSpacePinLaw : plainName "com/example/compact_settings/compactsettings/text/ContinuedLinesIsWhiteSpacePinLaw" = true := by first | (simp [plainName, overriddenIn]; done) | decide +kernel
theorem ef_0 (m : MethodId) (u0 : Int32) : entryFrame m #[(.int u0)] maxLocals = mkF m 0 #[.val (.int u0), .unset, .unset, .unset, .unset] [] := by first | (simp [entryFrame, mkF, argsToLocals, Value.category, maxLocals]; done) | rfl
def Q0 (Z : State) (u0 : Int32) (h0 : Heap) (n0 : Nat) (v : Option Value) (h : Heap) (L : List Loc) : Prop := v = some (.int (1 : Int32)) ∧ Fr n0 L
set_option maxRecDepth 65536 in
set_option maxHeartbeats 40000000 in
theorem rm0 (l : Launch) (Z : State) (a0 : Array Value) (hw : ∀ d ∈ tables_1, d.before a0 Z = true) (ws : List Jvm.Cond) (u0 : Int32) (h0 : Heap) (n0 : Nat) (Z0 : n0 ≤ h0.size) :
    MetFree l x (head1 (Jvm.Cond.code x code maxLocals ret :: ws) room_1) (fun a U => a = #[(.int u0)] ∧ Z.Warmed39 U.vm ∧ U.heap = h0) (fun _ _ _ _ _ => True) (fun _ U o U' => ∃ v L, o = .returned v ∧ Q0 Z u0 h0 n0 v U'.heap L ∧ FrameEnd U o U' L room_1.cells room_1.slots) := by
  refine MetFree.of_bodySF (plainFor_of_name pn_com_example_compact_settings_compactsettings_text_ContinuedLinesIsWhiteSpacePinLaw) hisR ?_
  intro p e s m args below meth c s₁ Bd hml0 hP hK
  obtain ⟨rfl, hZ, hh⟩ := hP
  have hx := Bd.exec
  have hby := Bd.bytes
  have hml : c.maxLocals = 5 := hml0
  have hown : s.vm.findClass "com/example/compact_settings/compactsettings/text/ContinuedLinesIsWhiteSpacePinLaw" = some m.cls := findClass_of_methodNamed Bd.named
  have hnm := (name_of_methodNamed Bd.named Bd.method).1
  have X0 : Stand p l e room_1 s m #[(.int u0)] below meth c s₁ [] 0 0 := Stand.of_body Bd
  have e0 : s₁.heap = h0 := by rw [← hh, Bd.state]; rfl
  have N0 := Fr.nil n0
  have pre0 : ∀ t, Steps p.tables e below (s₁.setTop (mkF m 0 #[.val (.int u0), .unset, .unset, .unset, .unset] [])) t → Steps p.tables e below (s₁.setTop (entryFrame m #[(.int u0)] maxLocals)) t := fun t k => castTop (ef_0 m u0) k
  have st1 := X0.ldcInt hx hown (mvT hZ (hw _ (List.mem_of_getElem? (i := 0) rfl))) (g := (mkF m 1 #[.val (.int u0), .unset, .unset, .unset, .unset] [(.int u0)])) rfl (hb hby at_1)
  by_cases hc4 : (u0 &&& (65536 : Int32)) = (0 : Int32)
  · have st2 := X0.ldcInt hx hown (mvT hZ (hw _ (List.mem_of_getElem? (i := 1) rfl))) (g := (mkF m 17 #[.val (.int u0), .unset, .unset, .unset, .unset] [(.int u0)])) rfl (hb hby at_17)
    have st3 := X0.ldc2Long hx hown (mvT hZ (hw _ (List.mem_of_getElem? (i := 2) rfl))) (g := (mkF m 22 #[.val (.int u0), .val (.int ((u0 &&& (65535 : Int32)).toUInt32.toUInt16.toUInt32.toInt32)), .unset, .unset, .unset] [])) rfl (hb hby at_22)
    by_cases hc29 : (32 : Int32) < ((u0 &&& (65535 : Int32)).toUInt32.toUInt16.toUInt32.toInt32)
    · obtain ⟨_, _, ⟨T4, L4, k4, n4⟩, -, X4, ⟨Lc4, hQ4, l4, y4, z4⟩, st4⟩ := Jvm.LawKit.callS X0 hx (y := (⟨"com/example/compact_settings/compactsettings/text/ContinuedLines", "isWhiteSpace", "(C)Z"⟩ : MethodName)) hown (mvT hZ (hw _ (List.mem_of_getElem? (i := 3) rfl))) (mvT hZ (hw _ (List.mem_of_getElem? (i := 4) rfl))) (mvT hZ (hw _ (List.mem_of_getElem? (i := 5) rfl))) (mvT hZ (hw _ (List.mem_of_getElem? (i := 6) rfl))) (by decide) (backOf (W := 0) (rm1 l Z a0 hw [] ((u0 &&& (65535 : Int32)).toUInt32.toUInt16.toUInt32.toInt32) h0 n0 Z0 ) hZ (hw _ (List.mem_of_getElem? (i := 6) rfl)) (hw _ (List.mem_of_getElem? (i := 5) rfl)) (by decide) (by decide)) (g := (mkF m 50 #[.val (.int u0), .val (.int ((u0 &&& (65535 : Int32)).toUInt32.toUInt16.toUInt32.toInt32)), .val (.long (4294971904 : Int64)), .second, .val (.int (0 : Int32))] [(.int ((u0 &&& (65535 : Int32)).toUInt32.toUInt16.toUInt32.toInt32))])) rfl (by rw [hml]; rfl) (argsL := [(.int ((u0 &&& (65535 : Int32)).toUInt32.toUInt16.toUInt32.toInt32))]) (rest := []) (lenOf pd_0 rfl) rfl (by show 2 * 0 + _ ≤ _; exact Nat.le_of_eq rfl) (hb hby at_50) (fun _ _ => ⟨rfl, e0, (by decide : 0 + 0 ≤ _), (by decide : 0 + 0 ≤ _)⟩)
      dsimp only [Pt.U, Pt.locs, Pt.cells, Pt.slots] at X4 l4 y4 z4 st4 hQ4
      subst l4 y4 z4
      obtain ⟨rfl, N4q, e4⟩ := hQ4
      have N4 := Fr.app N0 N4q
      obtain ⟨fs, hr, hrun, hended, hW, hsame⟩ := X4.leave (v := some (.int (1 : Int32))) (fun h => by rw [Bd.returns] at h; cases h)
      refine ⟨_, _, pre0 _ ?_, hrun, hended, _, _, rfl, ?_, ⟨_, rfl⟩, hW, hsame.mono (by decide) (by decide)⟩
      · show Steps p.tables e below (s₁.setTop (mkF m 0 #[.val (.int u0), .unset, .unset, .unset, .unset] [])) _
        refine XS.iloadN X0.here hx rfl (hb hby at_0) rfl ?_
        show Steps p.tables e below (s₁.setTop (mkF m 1 #[.val (.int u0), .unset, .unset, .unset, .unset] [(.int u0)])) _
        refine st1 _ ?_
        show Steps p.tables e below (s₁.setTop (mkF m 3 #[.val (.int u0), .unset, .unset, .unset, .unset] [(.int (65536 : Int32)), (.int u0)])) _
        refine XS.iand X0.here hx rfl (hb hby at_3) rfl ?_
        show Steps p.tables e below (s₁.setTop (mkF m 4 #[.val (.int u0), .unset, .unset, .unset, .unset] [(.int (u0 &&& (65536 : Int32)))])) _
        refine XS.ifYes X0.here hx rfl (pc0 := 4) (pc' := 16) rfl (hb hby at_4) rfl ((if0 _ _).trans (teq hc4).1) (by decide) (by decide) ?_
        show Steps p.tables e below (s₁.setTop (mkF m 16 #[.val (.int u0), .unset, .unset, .unset, .unset] [])) _
        refine XS.iloadN X0.here hx rfl (hb hby at_16) rfl ?_
        show Steps p.tables e below (s₁.setTop (mkF m 17 #[.val (.int u0), .unset, .unset, .unset, .unset] [(.int u0)])) _
        refine st2 _ ?_
        show Steps p.tables e below (s₁.setTop (mkF m 19 #[.val (.int u0), .unset, .unset, .unset, .unset] [(.int (65535 : Int32)), (.int u0)])) _
        refine XS.iand X0.here hx rfl (hb hby at_19) rfl ?_
        show Steps p.tables e below (s₁.setTop (mkF m 20 #[.val (.int u0), .unset, .unset, .unset, .unset] [(.int (u0 &&& (65535 : Int32)))])) _
        refine XS.i2c X0.here hx rfl (hb hby at_20) rfl ?_
        show Steps p.tables e below (s₁.setTop (mkF m 21 #[.val (.int u0), .unset, .unset, .unset, .unset] [(.int ((u0 &&& (65535 : Int32)).toUInt32.toUInt16.toUInt32.toInt32))])) _
        refine XS.istoreN X0.here hx rfl (hb hby at_21) rfl (l' := #[.val (.int u0), .val (.int ((u0 &&& (65535 : Int32)).toUInt32.toUInt16.toUInt32.toInt32)), .unset, .unset, .unset]) rfl ?_
        show Steps p.tables e below (s₁.setTop (mkF m 22 #[.val (.int u0), .val (.int ((u0 &&& (65535 : Int32)).toUInt32.toUInt16.toUInt32.toInt32)), .unset, .unset, .unset] [])) _
        refine st3 _ ?_
        show Steps p.tables e below (s₁.setTop (mkF m 25 #[.val (.int u0), .val (.int ((u0 &&& (65535 : Int32)).toUInt32.toUInt16.toUInt32.toInt32)), .unset, .unset, .unset] [(.long (4294971904 : Int64))])) _
        refine XS.lstoreN X0.here hx rfl (hb hby at_25) rfl (l' := #[.val (.int u0), .val (.int ((u0 &&& (65535 : Int32)).toUInt32.toUInt16.toUInt32.toInt32)), .val (.long (4294971904 : Int64)), .second, .unset]) rfl ?_
        show Steps p.tables e below (s₁.setTop (mkF m 26 #[.val (.int u0), .val (.int ((u0 &&& (65535 : Int32)).toUInt32.toUInt16.toUInt32.toInt32)), .val (.long (4294971904 : Int64)), .second, .unset] [])) _
        refine XS.iloadN X0.here hx rfl (hb hby at_26) rfl ?_
        show Steps p.tables e below (s₁.setTop (mkF m 27 #[.val (.int u0), .val (.int ((u0 &&& (65535 : Int32)).toUInt32.toUInt16.toUInt32.toInt32)), .val (.long (4294971904 : Int64)), .second, .unset] [(.int ((u0 &&& (65535 : Int32)).toUInt32.toUInt16.toUInt32.toInt32))])) _
        refine XS.bipush X0.here hx rfl (hb hby at_27) ?_
        show Steps p.tables e below (s₁.setTop (mkF m 29 #[.val (.int u0), .val (.int ((u0 &&& (65535 : Int32)).toUInt32.toUInt16.toUInt32.toInt32)), .val (.long (4294971904 : Int64)), .second, .unset] [(.int (32 : Int32)), (.int ((u0 &&& (65535 : Int32)).toUInt32.toUInt16.toUInt32.toInt32))])) _
        refine XS.icmpYes X0.here hx rfl (pc0 := 29) (pc' := 46) rfl (hb hby at_29) rfl (tlt hc29).2.2.1 (by decide) (by decide) ?_
        show Steps p.tables e below (s₁.setTop (mkF m 46 #[.val (.int u0), .val (.int ((u0 &&& (65535 : Int32)).toUInt32.toUInt16.toUInt32.toInt32)), .val (.long (4294971904 : Int64)), .second, .unset] [])) _
        refine XS.iconst X0.here hx rfl (hb hby at_46) ?_
        show Steps p.tables e below (s₁.setTop (mkF m 47 #[.val (.int u0), .val (.int ((u0 &&& (65535 : Int32)).toUInt32.toUInt16.toUInt32.toInt32)), .val (.long (4294971904 : Int64)), .second, .unset] [(.int (0 : Int32))])) _
        refine XS.istore X0.here hx rfl (hb hby at_47) rfl (l' := #[.val (.int u0), .val (.int ((u0 &&& (65535 : Int32)).toUInt32.toUInt16.toUInt32.toInt32)), .val (.long (4294971904 : Int64)), .second, .val (.int (0 : Int32))]) rfl ?_
        show Steps p.tables e below (s₁.setTop (mkF m 49 #[.val (.int u0), .val (.int ((u0 &&& (65535 : Int32)).toUInt32.toUInt16.toUInt32.toInt32)), .val (.long (4294971904 : Int64)), .second, .val (.int (0 : Int32))] [])) _
        refine XS.iloadN X0.here hx rfl (hb hby at_49) rfl ?_
        show Steps p.tables e below (s₁.setTop (mkF m 50 #[.val (.int u0), .val (.int ((u0 &&& (65535 : Int32)).toUInt32.toUInt16.toUInt32.toInt32)), .val (.long (4294971904 : Int64)), .second, .val (.int (0 : Int32))] [(.int ((u0 &&& (65535 : Int32)).toUInt32.toUInt16.toUInt32.toInt32))])) _
        refine st4 _ ?_
        show Steps p.tables e below (T4.setTop (mkF m 53 #[.val (.int u0), .val (.int ((u0 &&& (65535 : Int32)).toUInt32.toUInt16.toUInt32.toInt32)), .val (.long (4294971904 : Int64)), .second, .val (.int (0 : Int32))] [(.int (isWs ((u0 &&& (65535 : Int32)).toUInt32.toUInt16.toUInt32.toInt32)))])) _
        refine XS.iload X4.here hx rfl (hb hby at_53) rfl ?_
        show Steps p.tables e below (T4.setTop (mkF m 55 #[.val (.int u0), .val (.int ((u0 &&& (65535 : Int32)).toUInt32.toUInt16.toUInt32.toInt32)), .val (.long (4294971904 : Int64)), .second, .val (.int (0 : Int32))] [(.int (0 : Int32)), (.int (isWs ((u0 &&& (65535 : Int32)).toUInt32.toUInt16.toUInt32.toInt32)))])) _
        refine XS.icmpNo X4.here hx rfl (hb hby at_55) rfl (teq (ws_hi hc29)).2 ?_
        show Steps p.tables e below (T4.setTop (mkF m 58 #[.val (.int u0), .val (.int ((u0 &&& (65535 : Int32)).toUInt32.toUInt16.toUInt32.toInt32)), .val (.long (4294971904 : Int64)), .second, .val (.int (0 : Int32))] [])) _
        refine XS.iconst X4.here hx rfl (hb hby at_58) ?_
        show Steps p.tables e below (T4.setTop (mkF m 59 #[.val (.int u0), .val (.int ((u0 &&& (65535 : Int32)).toUInt32.toUInt16.toUInt32.toInt32)), .val (.long (4294971904 : Int64)), .second, .val (.int (0 : Int32))] [(.int (1 : Int32))])) _
        refine XS.goto X4.here hx rfl (pc0 := 59) (pc' := 63) rfl (hb hby at_59) (by decide) (by decide) ?_
        show Steps p.tables e below (T4.setTop (mkF m 63 #[.val (.int u0), .val (.int ((u0 &&& (65535 : Int32)).toUInt32.toUInt16.toUInt32.toInt32)), .val (.long (4294971904 : Int64)), .second, .val (.int (0 : Int32))] [(.int (1 : Int32))])) _
        exact retN X4 hx (t := .boolean) Bd.returns (by simp) (hb hby at_63) hr
      · show Q0 Z u0 h0 n0 _ T4.heap _
        rw [e4]
        exact ⟨rfl, N4⟩
    · by_cases hc39 : (lcmpW (((1 : Int64) <<< (((u0 &&& (65535 : Int32)).toUInt32.toUInt16.toUInt32.toInt32) &&& 0x3f).toInt64) &&& (4294971904 : Int64)) (0 : Int64)) = (0 : Int32)
      · obtain ⟨_, _, ⟨T5, L5, k5, n5⟩, -, X5, ⟨Lc5, hQ5, l5, y5, z5⟩, st5⟩ := Jvm.LawKit.callS X0 hx (y := (⟨"com/example/compact_settings/compactsettings/text/ContinuedLines", "isWhiteSpace", "(C)Z"⟩ : MethodName)) hown (mvT hZ (hw _ (List.mem_of_getElem? (i := 3) rfl))) (mvT hZ (hw _ (List.mem_of_getElem? (i := 4) rfl))) (mvT hZ (hw _ (List.mem_of_getElem? (i := 5) rfl))) (mvT hZ (hw _ (List.mem_of_getElem? (i := 6) rfl))) (by decide) (backOf (W := 0) (rm1 l Z a0 hw [] ((u0 &&& (65535 : Int32)).toUInt32.toUInt16.toUInt32.toInt32) h0 n0 Z0 ) hZ (hw _ (List.mem_of_getElem? (i := 6) rfl)) (hw _ (List.mem_of_getElem? (i := 5) rfl)) (by decide) (by decide)) (g := (mkF m 50 #[.val (.int u0), .val (.int ((u0 &&& (65535 : Int32)).toUInt32.toUInt16.toUInt32.toInt32)), .val (.long (4294971904 : Int64)), .second, .val (.int (0 : Int32))] [(.int ((u0 &&& (65535 : Int32)).toUInt32.toUInt16.toUInt32.toInt32))])) rfl (by rw [hml]; rfl) (argsL := [(.int ((u0 &&& (65535 : Int32)).toUInt32.toUInt16.toUInt32.toInt32))]) (rest := []) (lenOf pd_0 rfl) rfl (by show 2 * 0 + _ ≤ _; exact Nat.le_of_eq rfl) (hb hby at_50) (fun _ _ => ⟨rfl, e0, (by decide : 0 + 0 ≤ _), (by decide : 0 + 0 ≤ _)⟩)
        dsimp only [Pt.U, Pt.locs, Pt.cells, Pt.slots] at X5 l5 y5 z5 st5 hQ5
        subst l5 y5 z5
        obtain ⟨rfl, N5q, e5⟩ := hQ5
        have N5 := Fr.app N0 N5q
        obtain ⟨fs, hr, hrun, hended, hW, hsame⟩ := X5.leave (v := some (.int (1 : Int32))) (fun h => by rw [Bd.returns] at h; cases h)
        refine ⟨_, _, pre0 _ ?_, hrun, hended, _, _, rfl, ?_, ⟨_, rfl⟩, hW, hsame.mono (by decide) (by decide)⟩
        · show Steps p.tables e below (s₁.setTop (mkF m 0 #[.val (.int u0), .unset, .unset, .unset, .unset] [])) _
          refine XS.iloadN X0.here hx rfl (hb hby at_0) rfl ?_
          show Steps p.tables e below (s₁.setTop (mkF m 1 #[.val (.int u0), .unset, .unset, .unset, .unset] [(.int u0)])) _
          refine st1 _ ?_
          show Steps p.tables e below (s₁.setTop (mkF m 3 #[.val (.int u0), .unset, .unset, .unset, .unset] [(.int (65536 : Int32)), (.int u0)])) _
          refine XS.iand X0.here hx rfl (hb hby at_3) rfl ?_
          show Steps p.tables e below (s₁.setTop (mkF m 4 #[.val (.int u0), .unset, .unset, .unset, .unset] [(.int (u0 &&& (65536 : Int32)))])) _
          refine XS.ifYes X0.here hx rfl (pc0 := 4) (pc' := 16) rfl (hb hby at_4) rfl ((if0 _ _).trans (teq hc4).1) (by decide) (by decide) ?_
          show Steps p.tables e below (s₁.setTop (mkF m 16 #[.val (.int u0), .unset, .unset, .unset, .unset] [])) _
          refine XS.iloadN X0.here hx rfl (hb hby at_16) rfl ?_
          show Steps p.tables e below (s₁.setTop (mkF m 17 #[.val (.int u0), .unset, .unset, .unset, .unset] [(.int u0)])) _
          refine st2 _ ?_
          show Steps p.tables e below (s₁.setTop (mkF m 19 #[.val (.int u0), .unset, .unset, .unset, .unset] [(.int (65535 : Int32)), (.int u0)])) _
          refine XS.iand X0.here hx rfl (hb hby at_19) rfl ?_
          show Steps p.tables e below (s₁.setTop (mkF m 20 #[.val (.int u0), .unset, .unset, .unset, .unset] [(.int (u0 &&& (65535 : Int32)))])) _
          refine XS.i2c X0.here hx rfl (hb hby at_20) rfl ?_
          show Steps p.tables e below (s₁.setTop (mkF m 21 #[.val (.int u0), .unset, .unset, .unset, .unset] [(.int ((u0 &&& (65535 : Int32)).toUInt32.toUInt16.toUInt32.toInt32))])) _
          refine XS.istoreN X0.here hx rfl (hb hby at_21) rfl (l' := #[.val (.int u0), .val (.int ((u0 &&& (65535 : Int32)).toUInt32.toUInt16.toUInt32.toInt32)), .unset, .unset, .unset]) rfl ?_
          show Steps p.tables e below (s₁.setTop (mkF m 22 #[.val (.int u0), .val (.int ((u0 &&& (65535 : Int32)).toUInt32.toUInt16.toUInt32.toInt32)), .unset, .unset, .unset] [])) _
          refine st3 _ ?_
          show Steps p.tables e below (s₁.setTop (mkF m 25 #[.val (.int u0), .val (.int ((u0 &&& (65535 : Int32)).toUInt32.toUInt16.toUInt32.toInt32)), .unset, .unset, .unset] [(.long (4294971904 : Int64))])) _
          refine XS.lstoreN X0.here hx rfl (hb hby at_25) rfl (l' := #[.val (.int u0), .val (.int ((u0 &&& (65535 : Int32)).toUInt32.toUInt16.toUInt32.toInt32)), .val (.long (4294971904 : Int64)), .second, .unset]) rfl ?_
          show Steps p.tables e below (s₁.setTop (mkF m 26 #[.val (.int u0), .val (.int ((u0 &&& (65535 : Int32)).toUInt32.toUInt16.toUInt32.toInt32)), .val (.long (4294971904 : Int64)), .second, .unset] [])) _
          refine XS.iloadN X0.here hx rfl (hb hby at_26) rfl ?_
          show Steps p.tables e below (s₁.setTop (mkF m 27 #[.val (.int u0), .val (.int ((u0 &&& (65535 : Int32)).toUInt32.toUInt16.toUInt32.toInt32)), .val (.long (4294971904 : Int64)), .second, .unset] [(.int ((u0 &&& (65535 : Int32)).toUInt32.toUInt16.toUInt32.toInt32))])) _
          refine XS.bipush X0.here hx rfl (hb hby at_27) ?_
          show Steps p.tables e below (s₁.setTop (mkF m 29 #[.val (.int u0), .val (.int ((u0 &&& (65535 : Int32)).toUInt32.toUInt16.toUInt32.toInt32)), .val (.long (4294971904 : Int64)), .second, .unset] [(.int (32 : Int32)), (.int ((u0 &&& (65535 : Int32)).toUInt32.toUInt16.toUInt32.toInt32))])) _
          refine XS.icmpNo X0.here hx rfl (hb hby at_29) rfl (flt hc29).2.2.1 ?_
          show Steps p.tables e below (s₁.setTop (mkF m 32 #[.val (.int u0), .val (.int ((u0 &&& (65535 : Int32)).toUInt32.toUInt16.toUInt32.toInt32)), .val (.long (4294971904 : Int64)), .second, .unset] [])) _
          refine XS.lconst X0.here hx rfl (hb hby at_32) ?_
          show Steps p.tables e below (s₁.setTop (mkF m 33 #[.val (.int u0), .val (.int ((u0 &&& (65535 : Int32)).toUInt32.toUInt16.toUInt32.toInt32)), .val (.long (4294971904 : Int64)), .second, .unset] [(.long (1 : Int64))])) _
          refine XS.iloadN X0.here hx rfl (hb hby at_33) rfl ?_
          show Steps p.tables e below (s₁.setTop (mkF m 34 #[.val (.int u0), .val (.int ((u0 &&& (65535 : Int32)).toUInt32.toUInt16.toUInt32.toInt32)), .val (.long (4294971904 : Int64)), .second, .unset] [(.int ((u0 &&& (65535 : Int32)).toUInt32.toUInt16.toUInt32.toInt32)), (.long (1 : Int64))])) _
          refine XS.lshl X0.here hx rfl (hb hby at_34) rfl ?_
          show Steps p.tables e below (s₁.setTop (mkF m 35 #[.val (.int u0), .val (.int ((u0 &&& (65535 : Int32)).toUInt32.toUInt16.toUInt32.toInt32)), .val (.long (4294971904 : Int64)), .second, .unset] [(.long ((1 : Int64) <<< (((u0 &&& (65535 : Int32)).toUInt32.toUInt16.toUInt32.toInt32) &&& 0x3f).toInt64))])) _
          refine XS.lloadN X0.here hx rfl (hb hby at_35) rfl ?_
          show Steps p.tables e below (s₁.setTop (mkF m 36 #[.val (.int u0), .val (.int ((u0 &&& (65535 : Int32)).toUInt32.toUInt16.toUInt32.toInt32)), .val (.long (4294971904 : Int64)), .second, .unset] [(.long (4294971904 : Int64)), (.long ((1 : Int64) <<< (((u0 &&& (65535 : Int32)).toUInt32.toUInt16.toUInt32.toInt32) &&& 0x3f).toInt64))])) _
          refine XS.land X0.here hx rfl (hb hby at_36) rfl ?_
          show Steps p.tables e below (s₁.setTop (mkF m 37 #[.val (.int u0), .val (.int ((u0 &&& (65535 : Int32)).toUInt32.toUInt16.toUInt32.toInt32)), .val (.long (4294971904 : Int64)), .second, .unset] [(.long (((1 : Int64) <<< (((u0 &&& (65535 : Int32)).toUInt32.toUInt16.toUInt32.toInt32) &&& 0x3f).toInt64) &&& (4294971904 : Int64)))])) _
          refine XS.lconst X0.here hx rfl (hb hby at_37) ?_
          show Steps p.tables e below (s₁.setTop (mkF m 38 #[.val (.int u0), .val (.int ((u0 &&& (65535 : Int32)).toUInt32.toUInt16.toUInt32.toInt32)), .val (.long (4294971904 : Int64)), .second, .unset] [(.long (0 : Int64)), (.long (((1 : Int64) <<< (((u0 &&& (65535 : Int32)).toUInt32.toUInt16.toUInt32.toInt32) &&& 0x3f).toInt64) &&& (4294971904 : Int64)))])) _
          refine XS.lcmp X0.here hx rfl (hb hby at_38) rfl ?_
          show Steps p.tables e below (s₁.setTop (mkF m 39 #[.val (.int u0), .val (.int ((u0 &&& (65535 : Int32)).toUInt32.toUInt16.toUInt32.toInt32)), .val (.long (4294971904 : Int64)), .second, .unset] [(.int (lcmpW (((1 : Int64) <<< (((u0 &&& (65535 : Int32)).toUInt32.toUInt16.toUInt32.toInt32) &&& 0x3f).toInt64) &&& (4294971904 : Int64)) (0 : Int64)))])) _
          refine XS.ifYes X0.here hx rfl (pc0 := 39) (pc' := 46) rfl (hb hby at_39) rfl ((if0 _ _).trans (teq hc39).1) (by decide) (by decide) ?_
          show Steps p.tables e below (s₁.setTop (mkF m 46 #[.val (.int u0), .val (.int ((u0 &&& (65535 : Int32)).toUInt32.toUInt16.toUInt32.toInt32)), .val (.long (4294971904 : Int64)), .second, .unset] [])) _
          refine XS.iconst X0.here hx rfl (hb hby at_46) ?_
          show Steps p.tables e below (s₁.setTop (mkF m 47 #[.val (.int u0), .val (.int ((u0 &&& (65535 : Int32)).toUInt32.toUInt16.toUInt32.toInt32)), .val (.long (4294971904 : Int64)), .second, .unset] [(.int (0 : Int32))])) _
          refine XS.istore X0.here hx rfl (hb hby at_47) rfl (l' := #[.val (.int u0), .val (.int ((u0 &&& (65535 : Int32)).toUInt32.toUInt16.toUInt32.toInt32)), .val (.long (4294971904 : Int64)), .second, .val (.int (0 : Int32))]) rfl ?_
          show Steps p.tables e below (s₁.setTop (mkF m 49 #[.val (.int u0), .val (.int ((u0 &&& (65535 : Int32)).toUInt32.toUInt16.toUInt32.toInt32)), .val (.long (4294971904 : Int64)), .second, .val (.int (0 : Int32))] [])) _
          refine XS.iloadN X0.here hx rfl (hb hby at_49) rfl ?_
          show Steps p.tables e below (s₁.setTop (mkF m 50 #[.val (.int u0), .val (.int ((u0 &&& (65535 : Int32)).toUInt32.toUInt16.toUInt32.toInt32)), .val (.long (4294971904 : Int64)), .second, .val (.int (0 : Int32))] [(.int ((u0 &&& (65535 : Int32)).toUInt32.toUInt16.toUInt32.toInt32))])) _
          refine st5 _ ?_
          show Steps p.tables e below (T5.setTop (mkF m 53 #[.val (.int u0), .val (.int ((u0 &&& (65535 : Int32)).toUInt32.toUInt16.toUInt32.toInt32)), .val (.long (4294971904 : Int64)), .second, .val (.int (0 : Int32))] [(.int (isWs ((u0 &&& (65535 : Int32)).toUInt32.toUInt16.toUInt32.toInt32)))])) _
          refine XS.iload X5.here hx rfl (hb hby at_53) rfl ?_
          show Steps p.tables e below (T5.setTop (mkF m 55 #[.val (.int u0), .val (.int ((u0 &&& (65535 : Int32)).toUInt32.toUInt16.toUInt32.toInt32)), .val (.long (4294971904 : Int64)), .second, .val (.int (0 : Int32))] [(.int (0 : Int32)), (.int (isWs ((u0 &&& (65535 : Int32)).toUInt32.toUInt16.toUInt32.toInt32)))])) _
          refine XS.icmpNo X5.here hx rfl (hb hby at_55) rfl (teq (ws_lo0 (own_nn _) hc29 hc39)).2 ?_
          show Steps p.tables e below (T5.setTop (mkF m 58 #[.val (.int u0), .val (.int ((u0 &&& (65535 : Int32)).toUInt32.toUInt16.toUInt32.toInt32)), .val (.long (4294971904 : Int64)), .second, .val (.int (0 : Int32))] [])) _
          refine XS.iconst X5.here hx rfl (hb hby at_58) ?_
          show Steps p.tables e below (T5.setTop (mkF m 59 #[.val (.int u0), .val (.int ((u0 &&& (65535 : Int32)).toUInt32.toUInt16.toUInt32.toInt32)), .val (.long (4294971904 : Int64)), .second, .val (.int (0 : Int32))] [(.int (1 : Int32))])) _
          refine XS.goto X5.here hx rfl (pc0 := 59) (pc' := 63) rfl (hb hby at_59) (by decide) (by decide) ?_
          show Steps p.tables e below (T5.setTop (mkF m 63 #[.val (.int u0), .val (.int ((u0 &&& (65535 : Int32)).toUInt32.toUInt16.toUInt32.toInt32)), .val (.long (4294971904 : Int64)), .second, .val (.int (0 : Int32))] [(.int (1 : Int32))])) _
          exact retN X5 hx (t := .boolean) Bd.returns (by simp) (hb hby at_63) hr
        · show Q0 Z u0 h0 n0 _ T5.heap _
          rw [e5]
          exact ⟨rfl, N5⟩
      · obtain ⟨_, _, ⟨T6, L6, k6, n6⟩, -, X6, ⟨Lc6, hQ6, l6, y6, z6⟩, st6⟩ := Jvm.LawKit.callS X0 hx (y := (⟨"com/example/compact_settings/compactsettings/text/ContinuedLines", "isWhiteSpace", "(C)Z"⟩ : MethodName)) hown (mvT hZ (hw _ (List.mem_of_getElem? (i := 3) rfl))) (mvT hZ (hw _ (List.mem_of_getElem? (i := 4) rfl))) (mvT hZ (hw _ (List.mem_of_getElem? (i := 5) rfl))) (mvT hZ (hw _ (List.mem_of_getElem? (i := 6) rfl))) (by decide) (backOf (W := 0) (rm1 l Z a0 hw [] ((u0 &&& (65535 : Int32)).toUInt32.toUInt16.toUInt32.toInt32) h0 n0 Z0 ) hZ (hw _ (List.mem_of_getElem? (i := 6) rfl)) (hw _ (List.mem_of_getElem? (i := 5) rfl)) (by decide) (by decide)) (g := (mkF m 50 #[.val (.int u0), .val (.int ((u0 &&& (65535 : Int32)).toUInt32.toUInt16.toUInt32.toInt32)), .val (.long (4294971904 : Int64)), .second, .val (.int (1 : Int32))] [(.int ((u0 &&& (65535 : Int32)).toUInt32.toUInt16.toUInt32.toInt32))])) rfl (by rw [hml]; rfl) (argsL := [(.int ((u0 &&& (65535 : Int32)).toUInt32.toUInt16.toUInt32.toInt32))]) (rest := []) (lenOf pd_0 rfl) rfl (by show 2 * 0 + _ ≤ _; exact Nat.le_of_eq rfl) (hb hby at_50) (fun _ _ => ⟨rfl, e0, (by decide : 0 + 0 ≤ _), (by decide : 0 + 0 ≤ _)⟩)
        dsimp only [Pt.U, Pt.locs, Pt.cells, Pt.slots] at X6 l6 y6 z6 st6 hQ6
        subst l6 y6 z6
        obtain ⟨rfl, N6q, e6⟩ := hQ6
        have N6 := Fr.app N0 N6q
        obtain ⟨fs, hr, hrun, hended, hW, hsame⟩ := X6.leave (v := some (.int (1 : Int32))) (fun h => by rw [Bd.returns] at h; cases h)
        refine ⟨_, _, pre0 _ ?_, hrun, hended, _, _, rfl, ?_, ⟨_, rfl⟩, hW, hsame.mono (by decide) (by decide)⟩
        · show Steps p.tables e below (s₁.setTop (mkF m 0 #[.val (.int u0), .unset, .unset, .unset, .unset] [])) _
          refine XS.iloadN X0.here hx rfl (hb hby at_0) rfl ?_
          show Steps p.tables e below (s₁.setTop (mkF m 1 #[.val (.int u0), .unset, .unset, .unset, .unset] [(.int u0)])) _
          refine st1 _ ?_
          show Steps p.tables e below (s₁.setTop (mkF m 3 #[.val (.int u0), .unset, .unset, .unset, .unset] [(.int (65536 : Int32)), (.int u0)])) _
          refine XS.iand X0.here hx rfl (hb hby at_3) rfl ?_
          show Steps p.tables e below (s₁.setTop (mkF m 4 #[.val (.int u0), .unset, .unset, .unset, .unset] [(.int (u0 &&& (65536 : Int32)))])) _
          refine XS.ifYes X0.here hx rfl (pc0 := 4) (pc' := 16) rfl (hb hby at_4) rfl ((if0 _ _).trans (teq hc4).1) (by decide) (by decide) ?_
          show Steps p.tables e below (s₁.setTop (mkF m 16 #[.val (.int u0), .unset, .unset, .unset, .unset] [])) _
          refine XS.iloadN X0.here hx rfl (hb hby at_16) rfl ?_
          show Steps p.tables e below (s₁.setTop (mkF m 17 #[.val (.int u0), .unset, .unset, .unset, .unset] [(.int u0)])) _
          refine st2 _ ?_
          show Steps p.tables e below (s₁.setTop (mkF m 19 #[.val (.int u0), .unset, .unset, .unset, .unset] [(.int (65535 : Int32)), (.int u0)])) _
          refine XS.iand X0.here hx rfl (hb hby at_19) rfl ?_
          show Steps p.tables e below (s₁.setTop (mkF m 20 #[.val (.int u0), .unset, .unset, .unset, .unset] [(.int (u0 &&& (65535 : Int32)))])) _
          refine XS.i2c X0.here hx rfl (hb hby at_20) rfl ?_
          show Steps p.tables e below (s₁.setTop (mkF m 21 #[.val (.int u0), .unset, .unset, .unset, .unset] [(.int ((u0 &&& (65535 : Int32)).toUInt32.toUInt16.toUInt32.toInt32))])) _
          refine XS.istoreN X0.here hx rfl (hb hby at_21) rfl (l' := #[.val (.int u0), .val (.int ((u0 &&& (65535 : Int32)).toUInt32.toUInt16.toUInt32.toInt32)), .unset, .unset, .unset]) rfl ?_
          show Steps p.tables e below (s₁.setTop (mkF m 22 #[.val (.int u0), .val (.int ((u0 &&& (65535 : Int32)).toUInt32.toUInt16.toUInt32.toInt32)), .unset, .unset, .unset] [])) _
          refine st3 _ ?_
          show Steps p.tables e below (s₁.setTop (mkF m 25 #[.val (.int u0), .val (.int ((u0 &&& (65535 : Int32)).toUInt32.toUInt16.toUInt32.toInt32)), .unset, .unset, .unset] [(.long (4294971904 : Int64))])) _
          refine XS.lstoreN X0.here hx rfl (hb hby at_25) rfl (l' := #[.val (.int u0), .val (.int ((u0 &&& (65535 : Int32)).toUInt32.toUInt16.toUInt32.toInt32)), .val (.long (4294971904 : Int64)), .second, .unset]) rfl ?_
          show Steps p.tables e below (s₁.setTop (mkF m 26 #[.val (.int u0), .val (.int ((u0 &&& (65535 : Int32)).toUInt32.toUInt16.toUInt32.toInt32)), .val (.long (4294971904 : Int64)), .second, .unset] [])) _
          refine XS.iloadN X0.here hx rfl (hb hby at_26) rfl ?_
          show Steps p.tables e below (s₁.setTop (mkF m 27 #[.val (.int u0), .val (.int ((u0 &&& (65535 : Int32)).toUInt32.toUInt16.toUInt32.toInt32)), .val (.long (4294971904 : Int64)), .second, .unset] [(.int ((u0 &&& (65535 : Int32)).toUInt32.toUInt16.toUInt32.toInt32))])) _
          refine XS.bipush X0.here hx rfl (hb hby at_27) ?_
          show Steps p.tables e below (s₁.setTop (mkF m 29 #[.val (.int u0), .val (.int ((u0 &&& (65535 : Int32)).toUInt32.toUInt16.toUInt32.toInt32)), .val (.long (4294971904 : Int64)), .second, .unset] [(.int (32 : Int32)), (.int ((u0 &&& (65535 : Int32)).toUInt32.toUInt16.toUInt32.toInt32))])) _
          refine XS.icmpNo X0.here hx rfl (hb hby at_29) rfl (flt hc29).2.2.1 ?_
          show Steps p.tables e below (s₁.setTop (mkF m 32 #[.val (.int u0), .val (.int ((u0 &&& (65535 : Int32)).toUInt32.toUInt16.toUInt32.toInt32)), .val (.long (4294971904 : Int64)), .second, .unset] [])) _
          refine XS.lconst X0.here hx rfl (hb hby at_32) ?_
          show Steps p.tables e below (s₁.setTop (mkF m 33 #[.val (.int u0), .val (.int ((u0 &&& (65535 : Int32)).toUInt32.toUInt16.toUInt32.toInt32)), .val (.long (4294971904 : Int64)), .second, .unset] [(.long (1 : Int64))])) _
          refine XS.iloadN X0.here hx rfl (hb hby at_33) rfl ?_
          show Steps p.tables e below (s₁.setTop (mkF m 34 #[.val (.int u0), .val (.int ((u0 &&& (65535 : Int32)).toUInt32.toUInt16.toUInt32.toInt32)), .val (.long (4294971904 : Int64)), .second, .unset] [(.int ((u0 &&& (65535 : Int32)).toUInt32.toUInt16.toUInt32.toInt32)), (.long (1 : Int64))])) _
          refine XS.lshl X0.here hx rfl (hb hby at_34) rfl ?_
          show Steps p.tables e below (s₁.setTop (mkF m 35 #[.val (.int u0), .val (.int ((u0 &&& (65535 : Int32)).toUInt32.toUInt16.toUInt32.toInt32)), .val (.long (4294971904 : Int64)), .second, .unset] [(.long ((1 : Int64) <<< (((u0 &&& (65535 : Int32)).toUInt32.toUInt16.toUInt32.toInt32) &&& 0x3f).toInt64))])) _
          refine XS.lloadN X0.here hx rfl (hb hby at_35) rfl ?_
          show Steps p.tables e below (s₁.setTop (mkF m 36 #[.val (.int u0), .val (.int ((u0 &&& (65535 : Int32)).toUInt32.toUInt16.toUInt32.toInt32)), .val (.long (4294971904 : Int64)), .second, .unset] [(.long (4294971904 : Int64)), (.long ((1 : Int64) <<< (((u0 &&& (65535 : Int32)).toUInt32.toUInt16.toUInt32.toInt32) &&& 0x3f).toInt64))])) _
          refine XS.land X0.here hx rfl (hb hby at_36) rfl ?_
          show Steps p.tables e below (s₁.setTop (mkF m 37 #[.val (.int u0), .val (.int ((u0 &&& (65535 : Int32)).toUInt32.toUInt16.toUInt32.toInt32)), .val (.long (4294971904 : Int64)), .second, .unset] [(.long (((1 : Int64) <<< (((u0 &&& (65535 : Int32)).toUInt32.toUInt16.toUInt32.toInt32) &&& 0x3f).toInt64) &&& (4294971904 : Int64)))])) _
          refine XS.lconst X0.here hx rfl (hb hby at_37) ?_
          show Steps p.tables e below (s₁.setTop (mkF m 38 #[.val (.int u0), .val (.int ((u0 &&& (65535 : Int32)).toUInt32.toUInt16.toUInt32.toInt32)), .val (.long (4294971904 : Int64)), .second, .unset] [(.long (0 : Int64)), (.long (((1 : Int64) <<< (((u0 &&& (65535 : Int32)).toUInt32.toUInt16.toUInt32.toInt32) &&& 0x3f).toInt64) &&& (4294971904 : Int64)))])) _
          refine XS.lcmp X0.here hx rfl (hb hby at_38) rfl ?_
          show Steps p.tables e below (s₁.setTop (mkF m 39 #[.val (.int u0), .val (.int ((u0 &&& (65535 : Int32)).toUInt32.toUInt16.toUInt32.toInt32)), .val (.long (4294971904 : Int64)), .second, .unset] [(.int (lcmpW (((1 : Int64) <<< (((u0 &&& (65535 : Int32)).toUInt32.toUInt16.toUInt32.toInt32) &&& 0x3f).toInt64) &&& (4294971904 : Int64)) (0 : Int64)))])) _
          refine XS.ifNo X0.here hx rfl (hb hby at_39) rfl ((if0 _ _).trans (feq hc39).1) ?_
          show Steps p.tables e below (s₁.setTop (mkF m 42 #[.val (.int u0), .val (.int ((u0 &&& (65535 : Int32)).toUInt32.toUInt16.toUInt32.toInt32)), .val (.long (4294971904 : Int64)), .second, .unset] [])) _
          refine XS.iconst X0.here hx rfl (hb hby at_42) ?_
          show Steps p.tables e below (s₁.setTop (mkF m 43 #[.val (.int u0), .val (.int ((u0 &&& (65535 : Int32)).toUInt32.toUInt16.toUInt32.toInt32)), .val (.long (4294971904 : Int64)), .second, .unset] [(.int (1 : Int32))])) _
          refine XS.goto X0.here hx rfl (pc0 := 43) (pc' := 47) rfl (hb hby at_43) (by decide) (by decide) ?_
          show Steps p.tables e below (s₁.setTop (mkF m 47 #[.val (.int u0), .val (.int ((u0 &&& (65535 : Int32)).toUInt32.toUInt16.toUInt32.toInt32)), .val (.long (4294971904 : Int64)), .second, .unset] [(.int (1 : Int32))])) _
          refine XS.istore X0.here hx rfl (hb hby at_47) rfl (l' := #[.val (.int u0), .val (.int ((u0 &&& (65535 : Int32)).toUInt32.toUInt16.toUInt32.toInt32)), .val (.long (4294971904 : Int64)), .second, .val (.int (1 : Int32))]) rfl ?_
          show Steps p.tables e below (s₁.setTop (mkF m 49 #[.val (.int u0), .val (.int ((u0 &&& (65535 : Int32)).toUInt32.toUInt16.toUInt32.toInt32)), .val (.long (4294971904 : Int64)), .second, .val (.int (1 : Int32))] [])) _
          refine XS.iloadN X0.here hx rfl (hb hby at_49) rfl ?_
          show Steps p.tables e below (s₁.setTop (mkF m 50 #[.val (.int u0), .val (.int ((u0 &&& (65535 : Int32)).toUInt32.toUInt16.toUInt32.toInt32)), .val (.long (4294971904 : Int64)), .second, .val (.int (1 : Int32))] [(.int ((u0 &&& (65535 : Int32)).toUInt32.toUInt16.toUInt32.toInt32))])) _
          refine st6 _ ?_
          show Steps p.tables e below (T6.setTop (mkF m 53 #[.val (.int u0), .val (.int ((u0 &&& (65535 : Int32)).toUInt32.toUInt16.toUInt32.toInt32)), .val (.long (4294971904 : Int64)), .second, .val (.int (1 : Int32))] [(.int (isWs ((u0 &&& (65535 : Int32)).toUInt32.toUInt16.toUInt32.toInt32)))])) _
          refine XS.iload X6.here hx rfl (hb hby at_53) rfl ?_
          show Steps p.tables e below (T6.setTop (mkF m 55 #[.val (.int u0), .val (.int ((u0 &&& (65535 : Int32)).toUInt32.toUInt16.toUInt32.toInt32)), .val (.long (4294971904 : Int64)), .second, .val (.int (1 : Int32))] [(.int (1 : Int32)), (.int (isWs ((u0 &&& (65535 : Int32)).toUInt32.toUInt16.toUInt32.toInt32)))])) _
          refine XS.icmpNo X6.here hx rfl (hb hby at_55) rfl (teq (ws_lo1 (own_nn _) hc29 hc39)).2 ?_
          show Steps p.tables e below (T6.setTop (mkF m 58 #[.val (.int u0), .val (.int ((u0 &&& (65535 : Int32)).toUInt32.toUInt16.toUInt32.toInt32)), .val (.long (4294971904 : Int64)), .second, .val (.int (1 : Int32))] [])) _
          refine XS.iconst X6.here hx rfl (hb hby at_58) ?_
          show Steps p.tables e below (T6.setTop (mkF m 59 #[.val (.int u0), .val (.int ((u0 &&& (65535 : Int32)).toUInt32.toUInt16.toUInt32.toInt32)), .val (.long (4294971904 : Int64)), .second, .val (.int (1 : Int32))] [(.int (1 : Int32))])) _
          refine XS.goto X6.here hx rfl (pc0 := 59) (pc' := 63) rfl (hb hby at_59) (by decide) (by decide) ?_
          show Steps p.tables e below (T6.setTop (mkF m 63 #[.val (.int u0), .val (.int ((u0 &&& (65535 : Int32)).toUInt32.toUInt16.toUInt32.toInt32)), .val (.long (4294971904 : Int64)), .second, .val (.int (1 : Int32))] [(.int (1 : Int32))])) _
          exact retN X6 hx (t := .boolean) Bd.returns (by simp) (hb hby at_63) hr
        · show Q0 Z u0 h0 n0 _ T6.heap _
          rw [e6]
          exact ⟨rfl, N6⟩
  · have st7 := X0.ldc2Long hx hown (mvT hZ (hw _ (List.mem_of_getElem? (i := 2) rfl))) (g := (mkF m 22 #[.val (.int u0), .val (.int ((u0 &&& (63 : Int32)).toUInt32.toUInt16.toUInt32.toInt32)), .unset, .unset, .unset] [])) rfl (hb hby at_22)
    by_cases hc29 : (32 : Int32) < ((u0 &&& (63 : Int32)).toUInt32.toUInt16.toUInt32.toInt32)
    · obtain ⟨_, _, ⟨T8, L8, k8, n8⟩, -, X8, ⟨Lc8, hQ8, l8, y8, z8⟩, st8⟩ := Jvm.LawKit.callS X0 hx (y := (⟨"com/example/compact_settings/compactsettings/text/ContinuedLines", "isWhiteSpace", "(C)Z"⟩ : MethodName)) hown (mvT hZ (hw _ (List.mem_of_getElem? (i := 3) rfl))) (mvT hZ (hw _ (List.mem_of_getElem? (i := 4) rfl))) (mvT hZ (hw _ (List.mem_of_getElem? (i := 5) rfl))) (mvT hZ (hw _ (List.mem_of_getElem? (i := 6) rfl))) (by decide) (backOf (W := 0) (rm1 l Z a0 hw [] ((u0 &&& (63 : Int32)).toUInt32.toUInt16.toUInt32.toInt32) h0 n0 Z0 ) hZ (hw _ (List.mem_of_getElem? (i := 6) rfl)) (hw _ (List.mem_of_getElem? (i := 5) rfl)) (by decide) (by decide)) (g := (mkF m 50 #[.val (.int u0), .val (.int ((u0 &&& (63 : Int32)).toUInt32.toUInt16.toUInt32.toInt32)), .val (.long (4294971904 : Int64)), .second, .val (.int (0 : Int32))] [(.int ((u0 &&& (63 : Int32)).toUInt32.toUInt16.toUInt32.toInt32))])) rfl (by rw [hml]; rfl) (argsL := [(.int ((u0 &&& (63 : Int32)).toUInt32.toUInt16.toUInt32.toInt32))]) (rest := []) (lenOf pd_0 rfl) rfl (by show 2 * 0 + _ ≤ _; exact Nat.le_of_eq rfl) (hb hby at_50) (fun _ _ => ⟨rfl, e0, (by decide : 0 + 0 ≤ _), (by decide : 0 + 0 ≤ _)⟩)
      dsimp only [Pt.U, Pt.locs, Pt.cells, Pt.slots] at X8 l8 y8 z8 st8 hQ8
      subst l8 y8 z8
      obtain ⟨rfl, N8q, e8⟩ := hQ8
      have N8 := Fr.app N0 N8q
      obtain ⟨fs, hr, hrun, hended, hW, hsame⟩ := X8.leave (v := some (.int (1 : Int32))) (fun h => by rw [Bd.returns] at h; cases h)
      refine ⟨_, _, pre0 _ ?_, hrun, hended, _, _, rfl, ?_, ⟨_, rfl⟩, hW, hsame.mono (by decide) (by decide)⟩
      · show Steps p.tables e below (s₁.setTop (mkF m 0 #[.val (.int u0), .unset, .unset, .unset, .unset] [])) _
        refine XS.iloadN X0.here hx rfl (hb hby at_0) rfl ?_
        show Steps p.tables e below (s₁.setTop (mkF m 1 #[.val (.int u0), .unset, .unset, .unset, .unset] [(.int u0)])) _
        refine st1 _ ?_
        show Steps p.tables e below (s₁.setTop (mkF m 3 #[.val (.int u0), .unset, .unset, .unset, .unset] [(.int (65536 : Int32)), (.int u0)])) _
        refine XS.iand X0.here hx rfl (hb hby at_3) rfl ?_
        show Steps p.tables e below (s₁.setTop (mkF m 4 #[.val (.int u0), .unset, .unset, .unset, .unset] [(.int (u0 &&& (65536 : Int32)))])) _
        refine XS.ifNo X0.here hx rfl (hb hby at_4) rfl ((if0 _ _).trans (feq hc4).1) ?_
        show Steps p.tables e below (s₁.setTop (mkF m 7 #[.val (.int u0), .unset, .unset, .unset, .unset] [])) _
        refine XS.iloadN X0.here hx rfl (hb hby at_7) rfl ?_
        show Steps p.tables e below (s₁.setTop (mkF m 8 #[.val (.int u0), .unset, .unset, .unset, .unset] [(.int u0)])) _
        refine XS.bipush X0.here hx rfl (hb hby at_8) ?_
        show Steps p.tables e below (s₁.setTop (mkF m 10 #[.val (.int u0), .unset, .unset, .unset, .unset] [(.int (63 : Int32)), (.int u0)])) _
        refine XS.iand X0.here hx rfl (hb hby at_10) rfl ?_
        show Steps p.tables e below (s₁.setTop (mkF m 11 #[.val (.int u0), .unset, .unset, .unset, .unset] [(.int (u0 &&& (63 : Int32)))])) _
        refine XS.i2c X0.here hx rfl (hb hby at_11) rfl ?_
        show Steps p.tables e below (s₁.setTop (mkF m 12 #[.val (.int u0), .unset, .unset, .unset, .unset] [(.int ((u0 &&& (63 : Int32)).toUInt32.toUInt16.toUInt32.toInt32))])) _
        refine XS.istoreN X0.here hx rfl (hb hby at_12) rfl (l' := #[.val (.int u0), .val (.int ((u0 &&& (63 : Int32)).toUInt32.toUInt16.toUInt32.toInt32)), .unset, .unset, .unset]) rfl ?_
        show Steps p.tables e below (s₁.setTop (mkF m 13 #[.val (.int u0), .val (.int ((u0 &&& (63 : Int32)).toUInt32.toUInt16.toUInt32.toInt32)), .unset, .unset, .unset] [])) _
        refine XS.goto X0.here hx rfl (pc0 := 13) (pc' := 22) rfl (hb hby at_13) (by decide) (by decide) ?_
        show Steps p.tables e below (s₁.setTop (mkF m 22 #[.val (.int u0), .val (.int ((u0 &&& (63 : Int32)).toUInt32.toUInt16.toUInt32.toInt32)), .unset, .unset, .unset] [])) _
        refine st7 _ ?_
        show Steps p.tables e below (s₁.setTop (mkF m 25 #[.val (.int u0), .val (.int ((u0 &&& (63 : Int32)).toUInt32.toUInt16.toUInt32.toInt32)), .unset, .unset, .unset] [(.long (4294971904 : Int64))])) _
        refine XS.lstoreN X0.here hx rfl (hb hby at_25) rfl (l' := #[.val (.int u0), .val (.int ((u0 &&& (63 : Int32)).toUInt32.toUInt16.toUInt32.toInt32)), .val (.long (4294971904 : Int64)), .second, .unset]) rfl ?_
        show Steps p.tables e below (s₁.setTop (mkF m 26 #[.val (.int u0), .val (.int ((u0 &&& (63 : Int32)).toUInt32.toUInt16.toUInt32.toInt32)), .val (.long (4294971904 : Int64)), .second, .unset] [])) _
        refine XS.iloadN X0.here hx rfl (hb hby at_26) rfl ?_
        show Steps p.tables e below (s₁.setTop (mkF m 27 #[.val (.int u0), .val (.int ((u0 &&& (63 : Int32)).toUInt32.toUInt16.toUInt32.toInt32)), .val (.long (4294971904 : Int64)), .second, .unset] [(.int ((u0 &&& (63 : Int32)).toUInt32.toUInt16.toUInt32.toInt32))])) _
        refine XS.bipush X0.here hx rfl (hb hby at_27) ?_
        show Steps p.tables e below (s₁.setTop (mkF m 29 #[.val (.int u0), .val (.int ((u0 &&& (63 : Int32)).toUInt32.toUInt16.toUInt32.toInt32)), .val (.long (4294971904 : Int64)), .second, .unset] [(.int (32 : Int32)), (.int ((u0 &&& (63 : Int32)).toUInt32.toUInt16.toUInt32.toInt32))])) _
        refine XS.icmpYes X0.here hx rfl (pc0 := 29) (pc' := 46) rfl (hb hby at_29) rfl (tlt hc29).2.2.1 (by decide) (by decide) ?_
        show Steps p.tables e below (s₁.setTop (mkF m 46 #[.val (.int u0), .val (.int ((u0 &&& (63 : Int32)).toUInt32.toUInt16.toUInt32.toInt32)), .val (.long (4294971904 : Int64)), .second, .unset] [])) _
        refine XS.iconst X0.here hx rfl (hb hby at_46) ?_
        show Steps p.tables e below (s₁.setTop (mkF m 47 #[.val (.int u0), .val (.int ((u0 &&& (63 : Int32)).toUInt32.toUInt16.toUInt32.toInt32)), .val (.long (4294971904 : Int64)), .second, .unset] [(.int (0 : Int32))])) _
        refine XS.istore X0.here hx rfl (hb hby at_47) rfl (l' := #[.val (.int u0), .val (.int ((u0 &&& (63 : Int32)).toUInt32.toUInt16.toUInt32.toInt32)), .val (.long (4294971904 : Int64)), .second, .val (.int (0 : Int32))]) rfl ?_
        show Steps p.tables e below (s₁.setTop (mkF m 49 #[.val (.int u0), .val (.int ((u0 &&& (63 : Int32)).toUInt32.toUInt16.toUInt32.toInt32)), .val (.long (4294971904 : Int64)), .second, .val (.int (0 : Int32))] [])) _
        refine XS.iloadN X0.here hx rfl (hb hby at_49) rfl ?_
        show Steps p.tables e below (s₁.setTop (mkF m 50 #[.val (.int u0), .val (.int ((u0 &&& (63 : Int32)).toUInt32.toUInt16.toUInt32.toInt32)), .val (.long (4294971904 : Int64)), .second, .val (.int (0 : Int32))] [(.int ((u0 &&& (63 : Int32)).toUInt32.toUInt16.toUInt32.toInt32))])) _
        refine st8 _ ?_
        show Steps p.tables e below (T8.setTop (mkF m 53 #[.val (.int u0), .val (.int ((u0 &&& (63 : Int32)).toUInt32.toUInt16.toUInt32.toInt32)), .val (.long (4294971904 : Int64)), .second, .val (.int (0 : Int32))] [(.int (isWs ((u0 &&& (63 : Int32)).toUInt32.toUInt16.toUInt32.toInt32)))])) _
        refine XS.iload X8.here hx rfl (hb hby at_53) rfl ?_
        show Steps p.tables e below (T8.setTop (mkF m 55 #[.val (.int u0), .val (.int ((u0 &&& (63 : Int32)).toUInt32.toUInt16.toUInt32.toInt32)), .val (.long (4294971904 : Int64)), .second, .val (.int (0 : Int32))] [(.int (0 : Int32)), (.int (isWs ((u0 &&& (63 : Int32)).toUInt32.toUInt16.toUInt32.toInt32)))])) _
        refine XS.icmpNo X8.here hx rfl (hb hby at_55) rfl (teq (ws_hi hc29)).2 ?_
        show Steps p.tables e below (T8.setTop (mkF m 58 #[.val (.int u0), .val (.int ((u0 &&& (63 : Int32)).toUInt32.toUInt16.toUInt32.toInt32)), .val (.long (4294971904 : Int64)), .second, .val (.int (0 : Int32))] [])) _
        refine XS.iconst X8.here hx rfl (hb hby at_58) ?_
        show Steps p.tables e below (T8.setTop (mkF m 59 #[.val (.int u0), .val (.int ((u0 &&& (63 : Int32)).toUInt32.toUInt16.toUInt32.toInt32)), .val (.long (4294971904 : Int64)), .second, .val (.int (0 : Int32))] [(.int (1 : Int32))])) _
        refine XS.goto X8.here hx rfl (pc0 := 59) (pc' := 63) rfl (hb hby at_59) (by decide) (by decide) ?_
        show Steps p.tables e below (T8.setTop (mkF m 63 #[.val (.int u0), .val (.int ((u0 &&& (63 : Int32)).toUInt32.toUInt16.toUInt32.toInt32)), .val (.long (4294971904 : Int64)), .second, .val (.int (0 : Int32))] [(.int (1 : Int32))])) _
        exact retN X8 hx (t := .boolean) Bd.returns (by simp) (hb hby at_63) hr
      · show Q0 Z u0 h0 n0 _ T8.heap _
        rw [e8]
        exact ⟨rfl, N8⟩
    · by_cases hc39 : (lcmpW (((1 : Int64) <<< (((u0 &&& (63 : Int32)).toUInt32.toUInt16.toUInt32.toInt32) &&& 0x3f).toInt64) &&& (4294971904 : Int64)) (0 : Int64)) = (0 : Int32)
      · obtain ⟨_, _, ⟨T9, L9, k9, n9⟩, -, X9, ⟨Lc9, hQ9, l9, y9, z9⟩, st9⟩ := Jvm.LawKit.callS X0 hx (y := (⟨"com/example/compact_settings/compactsettings/text/ContinuedLines", "isWhiteSpace", "(C)Z"⟩ : MethodName)) hown (mvT hZ (hw _ (List.mem_of_getElem? (i := 3) rfl))) (mvT hZ (hw _ (List.mem_of_getElem? (i := 4) rfl))) (mvT hZ (hw _ (List.mem_of_getElem? (i := 5) rfl))) (mvT hZ (hw _ (List.mem_of_getElem? (i := 6) rfl))) (by decide) (backOf (W := 0) (rm1 l Z a0 hw [] ((u0 &&& (63 : Int32)).toUInt32.toUInt16.toUInt32.toInt32) h0 n0 Z0 ) hZ (hw _ (List.mem_of_getElem? (i := 6) rfl)) (hw _ (List.mem_of_getElem? (i := 5) rfl)) (by decide) (by decide)) (g := (mkF m 50 #[.val (.int u0), .val (.int ((u0 &&& (63 : Int32)).toUInt32.toUInt16.toUInt32.toInt32)), .val (.long (4294971904 : Int64)), .second, .val (.int (0 : Int32))] [(.int ((u0 &&& (63 : Int32)).toUInt32.toUInt16.toUInt32.toInt32))])) rfl (by rw [hml]; rfl) (argsL := [(.int ((u0 &&& (63 : Int32)).toUInt32.toUInt16.toUInt32.toInt32))]) (rest := []) (lenOf pd_0 rfl) rfl (by show 2 * 0 + _ ≤ _; exact Nat.le_of_eq rfl) (hb hby at_50) (fun _ _ => ⟨rfl, e0, (by decide : 0 + 0 ≤ _), (by decide : 0 + 0 ≤ _)⟩)
        dsimp only [Pt.U, Pt.locs, Pt.cells, Pt.slots] at X9 l9 y9 z9 st9 hQ9
        subst l9 y9 z9
        obtain ⟨rfl, N9q, e9⟩ := hQ9
        have N9 := Fr.app N0 N9q
        obtain ⟨fs, hr, hrun, hended, hW, hsame⟩ := X9.leave (v := some (.int (1 : Int32))) (fun h => by rw [Bd.returns] at h; cases h)
        refine ⟨_, _, pre0 _ ?_, hrun, hended, _, _, rfl, ?_, ⟨_, rfl⟩, hW, hsame.mono (by decide) (by decide)⟩
        · show Steps p.tables e below (s₁.setTop (mkF m 0 #[.val (.int u0), .unset, .unset, .unset, .unset] [])) _
          refine XS.iloadN X0.here hx rfl (hb hby at_0) rfl ?_
          show Steps p.tables e below (s₁.setTop (mkF m 1 #[.val (.int u0), .unset, .unset, .unset, .unset] [(.int u0)])) _
          refine st1 _ ?_
          show Steps p.tables e below (s₁.setTop (mkF m 3 #[.val (.int u0), .unset, .unset, .unset, .unset] [(.int (65536 : Int32)), (.int u0)])) _
          refine XS.iand X0.here hx rfl (hb hby at_3) rfl ?_
          show Steps p.tables e below (s₁.setTop (mkF m 4 #[.val (.int u0), .unset, .unset, .unset, .unset] [(.int (u0 &&& (65536 : Int32)))])) _
          refine XS.ifNo X0.here hx rfl (hb hby at_4) rfl ((if0 _ _).trans (feq hc4).1) ?_
          show Steps p.tables e below (s₁.setTop (mkF m 7 #[.val (.int u0), .unset, .unset, .unset, .unset] [])) _
          refine XS.iloadN X0.here hx rfl (hb hby at_7) rfl ?_
          show Steps p.tables e below (s₁.setTop (mkF m 8 #[.val (.int u0), .unset, .unset, .unset, .unset] [(.int u0)])) _
          refine XS.bipush X0.here hx rfl (hb hby at_8) ?_
          show Steps p.tables e below (s₁.setTop (mkF m 10 #[.val (.int u0), .unset, .unset, .unset, .unset] [(.int (63 : Int32)), (.int u0)])) _
          refine XS.iand X0.here hx rfl (hb hby at_10) rfl ?_
          show Steps p.tables e below (s₁.setTop (mkF m 11 #[.val (.int u0), .unset, .unset, .unset, .unset] [(.int (u0 &&& (63 : Int32)))])) _
          refine XS.i2c X0.here hx rfl (hb hby at_11) rfl ?_
          show Steps p.tables e below (s₁.setTop (mkF m 12 #[.val (.int u0), .unset, .unset, .unset, .unset] [(.int ((u0 &&& (63 : Int32)).toUInt32.toUInt16.toUInt32.toInt32))])) _
          refine XS.istoreN X0.here hx rfl (hb hby at_12) rfl (l' := #[.val (.int u0), .val (.int ((u0 &&& (63 : Int32)).toUInt32.toUInt16.toUInt32.toInt32)), .unset, .unset, .unset]) rfl ?_
          show Steps p.tables e below (s₁.setTop (mkF m 13 #[.val (.int u0), .val (.int ((u0 &&& (63 : Int32)).toUInt32.toUInt16.toUInt32.toInt32)), .unset, .unset, .unset] [])) _
          refine XS.goto X0.here hx rfl (pc0 := 13) (pc' := 22) rfl (hb hby at_13) (by decide) (by decide) ?_
          show Steps p.tables e below (s₁.setTop (mkF m 22 #[.val (.int u0), .val (.int ((u0 &&& (63 : Int32)).toUInt32.toUInt16.toUInt32.toInt32)), .unset, .unset, .unset] [])) _
          refine st7 _ ?_
          show Steps p.tables e below (s₁.setTop (mkF m 25 #[.val (.int u0), .val (.int ((u0 &&& (63 : Int32)).toUInt32.toUInt16.toUInt32.toInt32)), .unset, .unset, .unset] [(.long (4294971904 : Int64))])) _
          refine XS.lstoreN X0.here hx rfl (hb hby at_25) rfl (l' := #[.val (.int u0), .val (.int ((u0 &&& (63 : Int32)).toUInt32.toUInt16.toUInt32.toInt32)), .val (.long (4294971904 : Int64)), .second, .unset]) rfl ?_
          show Steps p.tables e below (s₁.setTop (mkF m 26 #[.val (.int u0), .val (.int ((u0 &&& (63 : Int32)).toUInt32.toUInt16.toUInt32.toInt32)), .val (.long (4294971904 : Int64)), .second, .unset] [])) _
          refine XS.iloadN X0.here hx rfl (hb hby at_26) rfl ?_
          show Steps p.tables e below (s₁.setTop (mkF m 27 #[.val (.int u0), .val (.int ((u0 &&& (63 : Int32)).toUInt32.toUInt16.toUInt32.toInt32)), .val (.long (4294971904 : Int64)), .second, .unset] [(.int ((u0 &&& (63 : Int32)).toUInt32.toUInt16.toUInt32.toInt32))])) _
          refine XS.bipush X0.here hx rfl (hb hby at_27) ?_
          show Steps p.tables e below (s₁.setTop (mkF m 29 #[.val (.int u0), .val (.int ((u0 &&& (63 : Int32)).toUInt32.toUInt16.toUInt32.toInt32)), .val (.long (4294971904 : Int64)), .second, .unset] [(.int (32 : Int32)), (.int ((u0 &&& (63 : Int32)).toUInt32.toUInt16.toUInt32.toInt32))])) _
          refine XS.icmpNo X0.here hx rfl (hb hby at_29) rfl (flt hc29).2.2.1 ?_
          show Steps p.tables e below (s₁.setTop (mkF m 32 #[.val (.int u0), .val (.int ((u0 &&& (63 : Int32)).toUInt32.toUInt16.toUInt32.toInt32)), .val (.long (4294971904 : Int64)), .second, .unset] [])) _
          refine XS.lconst X0.here hx rfl (hb hby at_32) ?_
          show Steps p.tables e below (s₁.setTop (mkF m 33 #[.val (.int u0), .val (.int ((u0 &&& (63 : Int32)).toUInt32.toUInt16.toUInt32.toInt32)), .val (.long (4294971904 : Int64)), .second, .unset] [(.long (1 : Int64))])) _
          refine XS.iloadN X0.here hx rfl (hb hby at_33) rfl ?_
          show Steps p.tables e below (s₁.setTop (mkF m 34 #[.val (.int u0), .val (.int ((u0 &&& (63 : Int32)).toUInt32.toUInt16.toUInt32.toInt32)), .val (.long (4294971904 : Int64)), .second, .unset] [(.int ((u0 &&& (63 : Int32)).toUInt32.toUInt16.toUInt32.toInt32)), (.long (1 : Int64))])) _
          refine XS.lshl X0.here hx rfl (hb hby at_34) rfl ?_
          show Steps p.tables e below (s₁.setTop (mkF m 35 #[.val (.int u0), .val (.int ((u0 &&& (63 : Int32)).toUInt32.toUInt16.toUInt32.toInt32)), .val (.long (4294971904 : Int64)), .second, .unset] [(.long ((1 : Int64) <<< (((u0 &&& (63 : Int32)).toUInt32.toUInt16.toUInt32.toInt32) &&& 0x3f).toInt64))])) _
          refine XS.lloadN X0.here hx rfl (hb hby at_35) rfl ?_
          show Steps p.tables e below (s₁.setTop (mkF m 36 #[.val (.int u0), .val (.int ((u0 &&& (63 : Int32)).toUInt32.toUInt16.toUInt32.toInt32)), .val (.long (4294971904 : Int64)), .second, .unset] [(.long (4294971904 : Int64)), (.long ((1 : Int64) <<< (((u0 &&& (63 : Int32)).toUInt32.toUInt16.toUInt32.toInt32) &&& 0x3f).toInt64))])) _
          refine XS.land X0.here hx rfl (hb hby at_36) rfl ?_
          show Steps p.tables e below (s₁.setTop (mkF m 37 #[.val (.int u0), .val (.int ((u0 &&& (63 : Int32)).toUInt32.toUInt16.toUInt32.toInt32)), .val (.long (4294971904 : Int64)), .second, .unset] [(.long (((1 : Int64) <<< (((u0 &&& (63 : Int32)).toUInt32.toUInt16.toUInt32.toInt32) &&& 0x3f).toInt64) &&& (4294971904 : Int64)))])) _
          refine XS.lconst X0.here hx rfl (hb hby at_37) ?_
          show Steps p.tables e below (s₁.setTop (mkF m 38 #[.val (.int u0), .val (.int ((u0 &&& (63 : Int32)).toUInt32.toUInt16.toUInt32.toInt32)), .val (.long (4294971904 : Int64)), .second, .unset] [(.long (0 : Int64)), (.long (((1 : Int64) <<< (((u0 &&& (63 : Int32)).toUInt32.toUInt16.toUInt32.toInt32) &&& 0x3f).toInt64) &&& (4294971904 : Int64)))])) _
          refine XS.lcmp X0.here hx rfl (hb hby at_38) rfl ?_
          show Steps p.tables e below (s₁.setTop (mkF m 39 #[.val (.int u0), .val (.int ((u0 &&& (63 : Int32)).toUInt32.toUInt16.toUInt32.toInt32)), .val (.long (4294971904 : Int64)), .second, .unset] [(.int (lcmpW (((1 : Int64) <<< (((u0 &&& (63 : Int32)).toUInt32.toUInt16.toUInt32.toInt32) &&& 0x3f).toInt64) &&& (4294971904 : Int64)) (0 : Int64)))])) _
          refine XS.ifYes X0.here hx rfl (pc0 := 39) (pc' := 46) rfl (hb hby at_39) rfl ((if0 _ _).trans (teq hc39).1) (by decide) (by decide) ?_
          show Steps p.tables e below (s₁.setTop (mkF m 46 #[.val (.int u0), .val (.int ((u0 &&& (63 : Int32)).toUInt32.toUInt16.toUInt32.toInt32)), .val (.long (4294971904 : Int64)), .second, .unset] [])) _
          refine XS.iconst X0.here hx rfl (hb hby at_46) ?_
          show Steps p.tables e below (s₁.setTop (mkF m 47 #[.val (.int u0), .val (.int ((u0 &&& (63 : Int32)).toUInt32.toUInt16.toUInt32.toInt32)), .val (.long (4294971904 : Int64)), .second, .unset] [(.int (0 : Int32))])) _
          refine XS.istore X0.here hx rfl (hb hby at_47) rfl (l' := #[.val (.int u0), .val (.int ((u0 &&& (63 : Int32)).toUInt32.toUInt16.toUInt32.toInt32)), .val (.long (4294971904 : Int64)), .second, .val (.int (0 : Int32))]) rfl ?_
          show Steps p.tables e below (s₁.setTop (mkF m 49 #[.val (.int u0), .val (.int ((u0 &&& (63 : Int32)).toUInt32.toUInt16.toUInt32.toInt32)), .val (.long (4294971904 : Int64)), .second, .val (.int (0 : Int32))] [])) _
          refine XS.iloadN X0.here hx rfl (hb hby at_49) rfl ?_
          show Steps p.tables e below (s₁.setTop (mkF m 50 #[.val (.int u0), .val (.int ((u0 &&& (63 : Int32)).toUInt32.toUInt16.toUInt32.toInt32)), .val (.long (4294971904 : Int64)), .second, .val (.int (0 : Int32))] [(.int ((u0 &&& (63 : Int32)).toUInt32.toUInt16.toUInt32.toInt32))])) _
          refine st9 _ ?_
          show Steps p.tables e below (T9.setTop (mkF m 53 #[.val (.int u0), .val (.int ((u0 &&& (63 : Int32)).toUInt32.toUInt16.toUInt32.toInt32)), .val (.long (4294971904 : Int64)), .second, .val (.int (0 : Int32))] [(.int (isWs ((u0 &&& (63 : Int32)).toUInt32.toUInt16.toUInt32.toInt32)))])) _
          refine XS.iload X9.here hx rfl (hb hby at_53) rfl ?_
          show Steps p.tables e below (T9.setTop (mkF m 55 #[.val (.int u0), .val (.int ((u0 &&& (63 : Int32)).toUInt32.toUInt16.toUInt32.toInt32)), .val (.long (4294971904 : Int64)), .second, .val (.int (0 : Int32))] [(.int (0 : Int32)), (.int (isWs ((u0 &&& (63 : Int32)).toUInt32.toUInt16.toUInt32.toInt32)))])) _
          refine XS.icmpNo X9.here hx rfl (hb hby at_55) rfl (teq (ws_lo0 (own_nn _) hc29 hc39)).2 ?_
          show Steps p.tables e below (T9.setTop (mkF m 58 #[.val (.int u0), .val (.int ((u0 &&& (63 : Int32)).toUInt32.toUInt16.toUInt32.toInt32)), .val (.long (4294971904 : Int64)), .second, .val (.int (0 : Int32))] [])) _
          refine XS.iconst X9.here hx rfl (hb hby at_58) ?_
          show Steps p.tables e below (T9.setTop (mkF m 59 #[.val (.int u0), .val (.int ((u0 &&& (63 : Int32)).toUInt32.toUInt16.toUInt32.toInt32)), .val (.long (4294971904 : Int64)), .second, .val (.int (0 : Int32))] [(.int (1 : Int32))])) _
          refine XS.goto X9.here hx rfl (pc0 := 59) (pc' := 63) rfl (hb hby at_59) (by decide) (by decide) ?_
          show Steps p.tables e below (T9.setTop (mkF m 63 #[.val (.int u0), .val (.int ((u0 &&& (63 : Int32)).toUInt32.toUInt16.toUInt32.toInt32)), .val (.long (4294971904 : Int64)), .second, .val (.int (0 : Int32))] [(.int (1 : Int32))])) _
          exact retN X9 hx (t := .boolean) Bd.returns (by simp) (hb hby at_63) hr
        · show Q0 Z u0 h0 n0 _ T9.heap _
          rw [e9]
          exact ⟨rfl, N9⟩
      · obtain ⟨_, _, ⟨T10, L10, k10, n10⟩, -, X10, ⟨Lc10, hQ10, l10, y10, z10⟩, st10⟩ := Jvm.LawKit.callS X0 hx (y := (⟨"com/example/compact_settings/compactsettings/text/ContinuedLines", "isWhiteSpace", "(C)Z"⟩ : MethodName)) hown (mvT hZ (hw _ (List.mem_of_getElem? (i := 3) rfl))) (mvT hZ (hw _ (List.mem_of_getElem? (i := 4) rfl))) (mvT hZ (hw _ (List.mem_of_getElem? (i := 5) rfl))) (mvT hZ (hw _ (List.mem_of_getElem? (i := 6) rfl))) (by decide) (backOf (W := 0) (rm1 l Z a0 hw [] ((u0 &&& (63 : Int32)).toUInt32.toUInt16.toUInt32.toInt32) h0 n0 Z0 ) hZ (hw _ (List.mem_of_getElem? (i := 6) rfl)) (hw _ (List.mem_of_getElem? (i := 5) rfl)) (by decide) (by decide)) (g := (mkF m 50 #[.val (.int u0), .val (.int ((u0 &&& (63 : Int32)).toUInt32.toUInt16.toUInt32.toInt32)), .val (.long (4294971904 : Int64)), .second, .val (.int (1 : Int32))] [(.int ((u0 &&& (63 : Int32)).toUInt32.toUInt16.toUInt32.toInt32))])) rfl (by rw [hml]; rfl) (argsL := [(.int ((u0 &&& (63 : Int32)).toUInt32.toUInt16.toUInt32.toInt32))]) (rest := []) (lenOf pd_0 rfl) rfl (by show 2 * 0 + _ ≤ _; exact Nat.le_of_eq rfl) (hb hby at_50) (fun _ _ => ⟨rfl, e0, (by decide : 0 + 0 ≤ _), (by decide : 0 + 0 ≤ _)⟩)
        dsimp only [Pt.U, Pt.locs, Pt.cells, Pt.slots] at X10 l10 y10 z10 st10 hQ10
        subst l10 y10 z10
        obtain ⟨rfl, N10q, e10⟩ := hQ10
        have N10 := Fr.app N0 N10q
        obtain ⟨fs, hr, hrun, hended, hW, hsame⟩ := X10.leave (v := some (.int (1 : Int32))) (fun h => by rw [Bd.returns] at h; cases h)
        refine ⟨_, _, pre0 _ ?_, hrun, hended, _, _, rfl, ?_, ⟨_, rfl⟩, hW, hsame.mono (by decide) (by decide)⟩
        · show Steps p.tables e below (s₁.setTop (mkF m 0 #[.val (.int u0), .unset, .unset, .unset, .unset] [])) _
          refine XS.iloadN X0.here hx rfl (hb hby at_0) rfl ?_
          show Steps p.tables e below (s₁.setTop (mkF m 1 #[.val (.int u0), .unset, .unset, .unset, .unset] [(.int u0)])) _
          refine st1 _ ?_
          show Steps p.tables e below (s₁.setTop (mkF m 3 #[.val (.int u0), .unset, .unset, .unset, .unset] [(.int (65536 : Int32)), (.int u0)])) _
          refine XS.iand X0.here hx rfl (hb hby at_3) rfl ?_
          show Steps p.tables e below (s₁.setTop (mkF m 4 #[.val (.int u0), .unset, .unset, .unset, .unset] [(.int (u0 &&& (65536 : Int32)))])) _
          refine XS.ifNo X0.here hx rfl (hb hby at_4) rfl ((if0 _ _).trans (feq hc4).1) ?_
          show Steps p.tables e below (s₁.setTop (mkF m 7 #[.val (.int u0), .unset, .unset, .unset, .unset] [])) _
          refine XS.iloadN X0.here hx rfl (hb hby at_7) rfl ?_
          show Steps p.tables e below (s₁.setTop (mkF m 8 #[.val (.int u0), .unset, .unset, .unset, .unset] [(.int u0)])) _
          refine XS.bipush X0.here hx rfl (hb hby at_8) ?_
          show Steps p.tables e below (s₁.setTop (mkF m 10 #[.val (.int u0), .unset, .unset, .unset, .unset] [(.int (63 : Int32)), (.int u0)])) _
          refine XS.iand X0.here hx rfl (hb hby at_10) rfl ?_
          show Steps p.tables e below (s₁.setTop (mkF m 11 #[.val (.int u0), .unset, .unset, .unset, .unset] [(.int (u0 &&& (63 : Int32)))])) _
          refine XS.i2c X0.here hx rfl (hb hby at_11) rfl ?_
          show Steps p.tables e below (s₁.setTop (mkF m 12 #[.val (.int u0), .unset, .unset, .unset, .unset] [(.int ((u0 &&& (63 : Int32)).toUInt32.toUInt16.toUInt32.toInt32))])) _
          refine XS.istoreN X0.here hx rfl (hb hby at_12) rfl (l' := #[.val (.int u0), .val (.int ((u0 &&& (63 : Int32)).toUInt32.toUInt16.toUInt32.toInt32)), .unset, .unset, .unset]) rfl ?_
          show Steps p.tables e below (s₁.setTop (mkF m 13 #[.val (.int u0), .val (.int ((u0 &&& (63 : Int32)).toUInt32.toUInt16.toUInt32.toInt32)), .unset, .unset, .unset] [])) _
          refine XS.goto X0.here hx rfl (pc0 := 13) (pc' := 22) rfl (hb hby at_13) (by decide) (by decide) ?_
          show Steps p.tables e below (s₁.setTop (mkF m 22 #[.val (.int u0), .val (.int ((u0 &&& (63 : Int32)).toUInt32.toUInt16.toUInt32.toInt32)), .unset, .unset, .unset] [])) _
          refine st7 _ ?_
          show Steps p.tables e below (s₁.setTop (mkF m 25 #[.val (.int u0), .val (.int ((u0 &&& (63 : Int32)).toUInt32.toUInt16.toUInt32.toInt32)), .unset, .unset, .unset] [(.long (4294971904 : Int64))])) _
          refine XS.lstoreN X0.here hx rfl (hb hby at_25) rfl (l' := #[.val (.int u0), .val (.int ((u0 &&& (63 : Int32)).toUInt32.toUInt16.toUInt32.toInt32)), .val (.long (4294971904 : Int64)), .second, .unset]) rfl ?_
          show Steps p.tables e below (s₁.setTop (mkF m 26 #[.val (.int u0), .val (.int ((u0 &&& (63 : Int32)).toUInt32.toUInt16.toUInt32.toInt32)), .val (.long (4294971904 : Int64)), .second, .unset] [])) _
          refine XS.iloadN X0.here hx rfl (hb hby at_26) rfl ?_
          show Steps p.tables e below (s₁.setTop (mkF m 27 #[.val (.int u0), .val (.int ((u0 &&& (63 : Int32)).toUInt32.toUInt16.toUInt32.toInt32)), .val (.long (4294971904 : Int64)), .second, .unset] [(.int ((u0 &&& (63 : Int32)).toUInt32.toUInt16.toUInt32.toInt32))])) _
          refine XS.bipush X0.here hx rfl (hb hby at_27) ?_
          show Steps p.tables e below (s₁.setTop (mkF m 29 #[.val (.int u0), .val (.int ((u0 &&& (63 : Int32)).toUInt32.toUInt16.toUInt32.toInt32)), .val (.long (4294971904 : Int64)), .second, .unset] [(.int (32 : Int32)), (.int ((u0 &&& (63 : Int32)).toUInt32.toUInt16.toUInt32.toInt32))])) _
          refine XS.icmpNo X0.here hx rfl (hb hby at_29) rfl (flt hc29).2.2.1 ?_
          show Steps p.tables e below (s₁.setTop (mkF m 32 #[.val (.int u0), .val (.int ((u0 &&& (63 : Int32)).toUInt32.toUInt16.toUInt32.toInt32)), .val (.long (4294971904 : Int64)), .second, .unset] [])) _
          refine XS.lconst X0.here hx rfl (hb hby at_32) ?_
          show Steps p.tables e below (s₁.setTop (mkF m 33 #[.val (.int u0), .val (.int ((u0 &&& (63 : Int32)).toUInt32.toUInt16.toUInt32.toInt32)), .val (.long (4294971904 : Int64)), .second, .unset] [(.long (1 : Int64))])) _
          refine XS.iloadN X0.here hx rfl (hb hby at_33) rfl ?_
          show Steps p.tables e below (s₁.setTop (mkF m 34 #[.val (.int u0), .val (.int ((u0 &&& (63 : Int32)).toUInt32.toUInt16.toUInt32.toInt32)), .val (.long (4294971904 : Int64)), .second, .unset] [(.int ((u0 &&& (63 : Int32)).toUInt32.toUInt16.toUInt32.toInt32)), (.long (1 : Int64))])) _
          refine XS.lshl X0.here hx rfl (hb hby at_34) rfl ?_
          show Steps p.tables e below (s₁.setTop (mkF m 35 #[.val (.int u0), .val (.int ((u0 &&& (63 : Int32)).toUInt32.toUInt16.toUInt32.toInt32)), .val (.long (4294971904 : Int64)), .second, .unset] [(.long ((1 : Int64) <<< (((u0 &&& (63 : Int32)).toUInt32.toUInt16.toUInt32.toInt32) &&& 0x3f).toInt64))])) _
          refine XS.lloadN X0.here hx rfl (hb hby at_35) rfl ?_
          show Steps p.tables e below (s₁.setTop (mkF m 36 #[.val (.int u0), .val (.int ((u0 &&& (63 : Int32)).toUInt32.toUInt16.toUInt32.toInt32)), .val (.long (4294971904 : Int64)), .second, .unset] [(.long (4294971904 : Int64)), (.long ((1 : Int64) <<< (((u0 &&& (63 : Int32)).toUInt32.toUInt16.toUInt32.toInt32) &&& 0x3f).toInt64))])) _
          refine XS.land X0.here hx rfl (hb hby at_36) rfl ?_
          show Steps p.tables e below (s₁.setTop (mkF m 37 #[.val (.int u0), .val (.int ((u0 &&& (63 : Int32)).toUInt32.toUInt16.toUInt32.toInt32)), .val (.long (4294971904 : Int64)), .second, .unset] [(.long (((1 : Int64) <<< (((u0 &&& (63 : Int32)).toUInt32.toUInt16.toUInt32.toInt32) &&& 0x3f).toInt64) &&& (4294971904 : Int64)))])) _
          refine XS.lconst X0.here hx rfl (hb hby at_37) ?_
          show Steps p.tables e below (s₁.setTop (mkF m 38 #[.val (.int u0), .val (.int ((u0 &&& (63 : Int32)).toUInt32.toUInt16.toUInt32.toInt32)), .val (.long (4294971904 : Int64)), .second, .unset] [(.long (0 : Int64)), (.long (((1 : Int64) <<< (((u0 &&& (63 : Int32)).toUInt32.toUInt16.toUInt32.toInt32) &&& 0x3f).toInt64) &&& (4294971904 : Int64)))])) _
          refine XS.lcmp X0.here hx rfl (hb hby at_38) rfl ?_
          show Steps p.tables e below (s₁.setTop (mkF m 39 #[.val (.int u0), .val (.int ((u0 &&& (63 : Int32)).toUInt32.toUInt16.toUInt32.toInt32)), .val (.long (4294971904 : Int64)), .second, .unset] [(.int (lcmpW (((1 : Int64) <<< (((u0 &&& (63 : Int32)).toUInt32.toUInt16.toUInt32.toInt32) &&& 0x3f).toInt64) &&& (4294971904 : Int64)) (0 : Int64)))])) _
          refine XS.ifNo X0.here hx rfl (hb hby at_39) rfl ((if0 _ _).trans (feq hc39).1) ?_
          show Steps p.tables e below (s₁.setTop (mkF m 42 #[.val (.int u0), .val (.int ((u0 &&& (63 : Int32)).toUInt32.toUInt16.toUInt32.toInt32)), .val (.long (4294971904 : Int64)), .second, .unset] [])) _
          refine XS.iconst X0.here hx rfl (hb hby at_42) ?_
          show Steps p.tables e below (s₁.setTop (mkF m 43 #[.val (.int u0), .val (.int ((u0 &&& (63 : Int32)).toUInt32.toUInt16.toUInt32.toInt32)), .val (.long (4294971904 : Int64)), .second, .unset] [(.int (1 : Int32))])) _
          refine XS.goto X0.here hx rfl (pc0 := 43) (pc' := 47) rfl (hb hby at_43) (by decide) (by decide) ?_
          show Steps p.tables e below (s₁.setTop (mkF m 47 #[.val (.int u0), .val (.int ((u0 &&& (63 : Int32)).toUInt32.toUInt16.toUInt32.toInt32)), .val (.long (4294971904 : Int64)), .second, .unset] [(.int (1 : Int32))])) _
          refine XS.istore X0.here hx rfl (hb hby at_47) rfl (l' := #[.val (.int u0), .val (.int ((u0 &&& (63 : Int32)).toUInt32.toUInt16.toUInt32.toInt32)), .val (.long (4294971904 : Int64)), .second, .val (.int (1 : Int32))]) rfl ?_
          show Steps p.tables e below (s₁.setTop (mkF m 49 #[.val (.int u0), .val (.int ((u0 &&& (63 : Int32)).toUInt32.toUInt16.toUInt32.toInt32)), .val (.long (4294971904 : Int64)), .second, .val (.int (1 : Int32))] [])) _
          refine XS.iloadN X0.here hx rfl (hb hby at_49) rfl ?_
          show Steps p.tables e below (s₁.setTop (mkF m 50 #[.val (.int u0), .val (.int ((u0 &&& (63 : Int32)).toUInt32.toUInt16.toUInt32.toInt32)), .val (.long (4294971904 : Int64)), .second, .val (.int (1 : Int32))] [(.int ((u0 &&& (63 : Int32)).toUInt32.toUInt16.toUInt32.toInt32))])) _
          refine st10 _ ?_
          show Steps p.tables e below (T10.setTop (mkF m 53 #[.val (.int u0), .val (.int ((u0 &&& (63 : Int32)).toUInt32.toUInt16.toUInt32.toInt32)), .val (.long (4294971904 : Int64)), .second, .val (.int (1 : Int32))] [(.int (isWs ((u0 &&& (63 : Int32)).toUInt32.toUInt16.toUInt32.toInt32)))])) _
          refine XS.iload X10.here hx rfl (hb hby at_53) rfl ?_
          show Steps p.tables e below (T10.setTop (mkF m 55 #[.val (.int u0), .val (.int ((u0 &&& (63 : Int32)).toUInt32.toUInt16.toUInt32.toInt32)), .val (.long (4294971904 : Int64)), .second, .val (.int (1 : Int32))] [(.int (1 : Int32)), (.int (isWs ((u0 &&& (63 : Int32)).toUInt32.toUInt16.toUInt32.toInt32)))])) _
          refine XS.icmpNo X10.here hx rfl (hb hby at_55) rfl (teq (ws_lo1 (own_nn _) hc29 hc39)).2 ?_
          show Steps p.tables e below (T10.setTop (mkF m 58 #[.val (.int u0), .val (.int ((u0 &&& (63 : Int32)).toUInt32.toUInt16.toUInt32.toInt32)), .val (.long (4294971904 : Int64)), .second, .val (.int (1 : Int32))] [])) _
          refine XS.iconst X10.here hx rfl (hb hby at_58) ?_
          show Steps p.tables e below (T10.setTop (mkF m 59 #[.val (.int u0), .val (.int ((u0 &&& (63 : Int32)).toUInt32.toUInt16.toUInt32.toInt32)), .val (.long (4294971904 : Int64)), .second, .val (.int (1 : Int32))] [(.int (1 : Int32))])) _
          refine XS.goto X10.here hx rfl (pc0 := 59) (pc' := 63) rfl (hb hby at_59) (by decide) (by decide) ?_
          show Steps p.tables e below (T10.setTop (mkF m 63 #[.val (.int u0), .val (.int ((u0 &&& (63 : Int32)).toUInt32.toUInt16.toUInt32.toInt32)), .val (.long (4294971904 : Int64)), .second, .val (.int (1 : Int32))] [(.int (1 : Int32))])) _
          exact retN X10 hx (t := .boolean) Bd.returns (by simp) (hb hby at_63) hr
        · show Q0 Z u0 h0 n0 _ T10.heap _
          rw [e10]
          exact ⟨rfl, N10⟩
set_option maxRecDepth 65536 in
set_option maxHeartbeats 40000000 in
theorem comes_1 {Post : Tables → Env → Array Value → State → Outcome → State → Prop} (hpost : ∀ tb e args s v u, (limb_1_1.after args s (.returned v) u = true ∧ limb_1_2.after args s (.returned v) u = true ∧ True) → FrameEnd s (.returned v) u (Jvm.fieldLocs frame_1_writes args s ++ Jvm.arrayLocs frame_1_arrays args s ++ Jvm.staticLocs frame_1_statics s) 0 0 → Post tb e args s (.returned v) u) :
    ArmFor flags0 classFile x code maxLocals ret World_1 tables_1 room_1 Calls_1 rest_1 Pre_1 Post := by
  intro l hfl _ _ p e ha hc hk s m args below hf hA hF happ hP
  obtain ⟨hcalls, hrest, hpre⟩ := hP
  obtain ⟨-, -, -, hnamed, -, -, -, hat⟩ := (Spec.applies_iff hf).mp happ
  obtain ⟨hg, hn⟩ := and_e (Cond.before_iff.mp (show (Jvm.Cond.and given_1 narrow_1).before args s = true from hpre))
  obtain ⟨g1, g2⟩ := and_e hg
  obtain ⟨w0, rfl⟩ : ∃ w0 : Value, args = #[w0] := by
    have hs : args.size = 1 := by simpa [Cond.value, given_1] using g1
    obtain ⟨L⟩ := args
    match L, hs with
    | [w0], _ => exact ⟨w0, rfl⟩
  have hw := fun d (hd : d ∈ tables_1) => atoms_spec (ws := Jvm.Cond.code x code maxLocals ret :: tables_1) hat d (List.mem_cons_of_mem _ hd)
  have hfit : Fit s := fun {y c} hc i hi => by
    obtain ⟨ha, rfl⟩ := Array.getElem?_eq_some_iff.mp hc
    have q := List.all_eq_true.mp ((Array.all_eq_true_iff_forall_mem.mp hF) _ (Array.getElem_mem ha)) i (List.mem_range.mpr hi)
    simpa [Array.getElem?_eq_getElem hi] using q
  obtain ⟨i0, ei0⟩ := is_v g2
  obtain rfl : w0 = (.int i0) := Option.some.inj ei0
  obtain ⟨n, o, h1, h2, h3, _, L, rfl, ⟨rfl, N⟩, hq⟩ := rm0 l s _ hw tables_1 i0 s.heap s.heap.size (Nat.le_refl _)  p e ha hc hk s m _ below hf ((Spec.applies_iff_loose hf).mp happ).1 ⟨rfl, State.Warmed39.refl s, rfl⟩ trivial
  refine ⟨n, _, h1, h2, h3, hpost _ _ _ _ _ _ ⟨Cond.after_iff.mpr rfl, Cond.after_iff.mpr (eq_i res_at (Term.int_eval (1)) rfl), trivial⟩ ⟨hq.1, hq.2.1, (hq.2.2.sift fun y hy => Or.inr (N y hy)).mono (by decide) (by decide)⟩⟩
theorem main_1_1 : Claimed_1_1 := comes_1 fun _ _ _ _ _ _ h hF => ⟨h.1, hF⟩
theorem main_1_2 : Claimed_1_2 := comes_1 fun _ _ _ _ _ _ h hF => ⟨h.2.1, hF⟩
end Jvm.Pilot.@@N@@
namespace Jvm.Pilot.@@N@@
open Jvm Jvm.ClassFile Sem Op Lib Jvm.Free Jvm.Stand Jvm.Pilot.@@N@@.Jvm.D
/-! MADE BY PROGRAM (witnessworld.py) out of the Statement's table words and the real class files: 9 classes; the members and pool entries that the words name. The judged class is class 1, her method 1. -/
namespace start1
open Jvm.ClassFile
def u (s : String) : CpInfo := .utf8 (stringToUtf16 s)
/-- a pool by its gaps: so many unusable entries, then the entry; so many at the end -/
def gap : Nat → List CpInfo → List CpInfo
  | 0, r => r
  | n + 1, r => .unusable :: gap n r
def poolList (es : List (Nat × CpInfo)) (last : Nat) : List CpInfo := es.foldr (fun e r => gap e.1 (e.2 :: r)) (gap last [])
def pool (es : List (Nat × CpInfo)) (last : Nat) : Array CpInfo := ⟨poolList es last⟩
def fileOf (pool : Array CpInfo) (this : Nat) (attrs : Array Attribute := #[]) (ms : Array MethodInfo := #[]) (fl : Nat := 33) (sup : Nat := 0) (ifs : Array Nat := #[]) (fds : Array FieldInfo := #[]) : ClassFile where
  minorVersion := 0
  majorVersion := 65
  constantPool := pool
  accessFlags := fl
  thisClass := this
  superClass := sup
  interfaces := ifs
  fields := fds
  methods := ms
  attributes := attrs
def plain (name : String) (sup : Option ClassId) : Class where
  name := name
  kind := .ordinary
  loader := none
  accessFlags := 33
  super := sup
  interfaces := #[]
  cf := none
  fields := #[]
  methods := #[]
  instanceTypes := #[]
  staticTypes := #[]
  resolved := #[]
  callSites := []
  init := .initialized
  statics := none
  mirror := none

def pool0 : Array CpInfo := pool [(5, u "<init>"), (0, u "()V"), (1, .class_ 10), (1, u "java/lang/Object")] 113

def k0m0 : Method := { name := "<init>", desc := "()V", sig := { parameters := [], returnType := none }, accessFlags := 1, code := none }
/-- java/lang/Object -/
def k0 : Class := { plain "java/lang/Object" none with
  accessFlags := 33
  interfaces := #[]
  cf := some (fileOf pool0 8 #[] #[{ accessFlags := 1, nameIndex := 5, descriptorIndex := 6, attributes := #[] }] 33 0 #[] #[])
  fields := #[]
  methods := #[k0m0]
  instanceTypes := #[]
  staticTypes := #[]
  resolved := Array.replicate 124 none
  statics := none }

def pool1 : Array CpInfo := pool [(2, .class_ 4), (1, u "java/lang/Object"), (0, u "<init>"), (0, u "()V"), (0, .integer 65536), (0, .integer 65535), (0, .long 4294971904), (1, .methodref 12 13), (0, .class_ 14), (0, .nameAndType 15 16), (0, u "com/example/compact_settings/compactsettings/text/ContinuedLines"), (0, u "isWhiteSpace"), (0, u "(C)Z"), (0, .class_ 18), (0, u "com/example/compact_settings/compactsettings/text/ContinuedLinesIsWhiteSpacePinLaw"), (2, u "law"), (0, u "(I)Z")] 3

def k1m0 : Method := { name := "<init>", desc := "()V", sig := { parameters := [], returnType := none }, accessFlags := 2, code := none }
def k1c1 : Code := { maxStack := 4, maxLocals := 5, code := code, exceptionTable := #[], attributes := #[] }
def k1m1 : Method := { name := "law", desc := "(I)Z", sig := { parameters := [.int], returnType := some .boolean }, accessFlags := 9, code := some k1c1 }
/-- com/example/compact_settings/compactsettings/text/ContinuedLinesIsWhiteSpacePinLaw -/
def k1 : Class := { plain "com/example/compact_settings/compactsettings/text/ContinuedLinesIsWhiteSpacePinLaw" (some 0) with
  accessFlags := 49
  interfaces := #[]
  cf := some (fileOf pool1 17 #[] #[{ accessFlags := 2, nameIndex := 5, descriptorIndex := 6, attributes := #[] }, { accessFlags := 9, nameIndex := 21, descriptorIndex := 22, attributes := #[] }] 49 2 #[] #[])
  fields := #[]
  methods := #[k1m0, k1m1]
  instanceTypes := #[]
  staticTypes := #[]
  resolved := Array.replicate 26 none
  statics := none }

def pool2 : Array CpInfo := pool [(2, .class_ 4), (1, u "java/lang/Object"), (0, u "<init>"), (0, u "()V"), (1, .class_ 10), (1, u "com/example/compact_settings/compactsettings/text/ContinuedLines"), (26, u "isWhiteSpace"), (0, u "(C)Z")] 16

def k2m0 : Method := { name := "<init>", desc := "()V", sig := { parameters := [], returnType := none }, accessFlags := 2, code := none }
def k2c1 : Code := { maxStack := 2, maxLocals := 1, code := prog_77_method_4_code, exceptionTable := #[], attributes := #[] }
def k2m1 : Method := { name := "isWhiteSpace", desc := "(C)Z", sig := { parameters := [.char], returnType := some .boolean }, accessFlags := 9, code := some k2c1 }
/-- com/example/compact_settings/compactsettings/text/ContinuedLines -/
def k2 : Class := { plain "com/example/compact_settings/compactsettings/text/ContinuedLines" (some 0) with
  accessFlags := 49
  interfaces := #[]
  cf := some (fileOf pool2 8 #[] #[{ accessFlags := 2, nameIndex := 5, descriptorIndex := 6, attributes := #[] }, { accessFlags := 9, nameIndex := 37, descriptorIndex := 38, attributes := #[] }] 49 2 #[] #[])
  fields := #[]
  methods := #[k2m0, k2m1]
  instanceTypes := #[]
  staticTypes := #[]
  resolved := Array.replicate 55 none
  statics := none }

def pool3 : Array CpInfo := pool [(1, u "java/lang/Cloneable"), (0, .class_ 1), (0, u "java/lang/Object"), (0, .class_ 3)] 3

/-- java/lang/Cloneable -/
def k3 : Class := { plain "java/lang/Cloneable" (some 0) with
  accessFlags := 1537
  interfaces := #[]
  cf := some (fileOf pool3 2 #[] #[] 1537 4 #[] #[])
  fields := #[]
  methods := #[]
  instanceTypes := #[]
  staticTypes := #[]
  resolved := Array.replicate 8 none
  statics := none }

def pool4 : Array CpInfo := pool [(1, u "java/io/Serializable"), (0, .class_ 1), (0, u "java/lang/Object"), (0, .class_ 3)] 3

/-- java/io/Serializable -/
def k4 : Class := { plain "java/io/Serializable" (some 0) with
  accessFlags := 1537
  interfaces := #[]
  cf := some (fileOf pool4 2 #[] #[] 1537 4 #[] #[])
  fields := #[]
  methods := #[]
  instanceTypes := #[]
  staticTypes := #[]
  resolved := Array.replicate 8 none
  statics := none }

/-- the primitive byte -/
def k5 : Class := { plain "byte" none with kind := .primitive 'B', accessFlags := 0x411 }
/-- [B -/
def k6 : Class := { plain "[B" (some 0) with kind := .array 5 .byte, interfaces := #[3, 4], accessFlags := 1041 }

/-- the primitive int -/
def k7 : Class := { plain "int" none with kind := .primitive 'I', accessFlags := 0x411 }
/-- [I -/
def k8 : Class := { plain "[I" (some 0) with kind := .array 7 .int, interfaces := #[3, 4], accessFlags := 1041 }

def heap : Heap := #[]
def classes : Array Class := #[k0, k1, k2, k3, k4, k5, k6, k7, k8]
def interned : List (Array UInt16 × Addr) := []
def slotsUsed : Nat := 0
def theMethod : MethodId := ⟨1, 1⟩
def args0 : Array Value := #[.int 5]
def aboutOver (below : List Frame) : State where
  vm := { classes := classes, interned := interned.toArray }
  heap := heap
  slotsUsed := slotsUsed
  threads := #[{ frames := .invoking theMethod args0 :: below }]
def below0 : List Frame := [.native { method := ⟨0, 0⟩, args := #[] }]
def about1 : State := aboutOver below0
def p0 : Program := .bare "" "" ""
def e0 : Env := launch0.env 0 0 0
theorem w_frames : about1.frames = Frame.invoking theMethod args0 :: below0 := rfl
set_option maxRecDepth 65536 in
theorem w_args : argsFit about1.vm theMethod args0 = true := by decide +kernel
set_option maxRecDepth 65536 in
theorem w_heap : heapFits about1 = true := by decide +kernel
set_option maxRecDepth 65536 in
theorem w_runnable : about1.curStatus? = some .runnable := by decide +kernel
set_option maxRecDepth 65536 in
theorem w_alone : about1.alone = true := by decide +kernel
set_option maxRecDepth 65536 in
theorem w_named : about1.methodNamed? x = some theMethod := by decide +kernel
set_option maxRecDepth 65536 in
theorem w_hears : about1.hears theMethod below0 = true := by decide +kernel
set_option maxRecDepth 65536 in
theorem w_ripe : about1.ripe theMethod args0 below0 = true := by decide +kernel
theorem w_running : about1.status = .running := rfl
set_option maxRecDepth 65536 in
theorem w_room : about1.hasRoom e0.platform room_1 = true :=
  launch0.hasRoom_least _ room_1 (by decide +kernel) (by decide +kernel) (by decide +kernel) (by decide +kernel) (by decide +kernel) (by decide +kernel)
theorem allAtoms_all (ts : List Jvm.Cond) (a : Array Jvm.Value) (st : Jvm.State) : (allAtoms ts).before a st = ts.all (fun c => c.before a st) := by
  induction ts with
  | nil => rfl
  | cons c t ih =>
    show (Jvm.Cond.and c (allAtoms t)).before a st = _
    rw [Jvm.Cond.before_and, ih, List.all_cons]
def words1 : List Jvm.Cond := Jvm.Cond.code x code maxLocals ret :: tables_1
/-- a 'code' word, met by the world's own term for the bytes: nothing is compared byte by byte -/
theorem code_word {y : MethodName} {bytes : ByteArray} {mx : Nat} {rt : Option FieldType} {a : Array Value} {s : State} {m : MethodId} {meth : Method} {c : Code} (h1 : s.methodNamed? y = some m) (h2 : s.vm.method? m = some meth) (h3 : meth.code = some c) (h4 : c.code = bytes)
    (h5 : (c.maxLocals == mx && c.exceptionTable.isEmpty && decide (c.maxStack ≤ mostOperands) && decide (meth.sig.returnType = rt) && !meth.locks && decide (parseMethodDescriptor y.desc = some meth.sig)) = true) : (Jvm.Cond.code y bytes mx rt).before a s = true := by
  simp only [Bool.and_eq_true, beq_iff_eq, Bool.not_eq_true', decide_eq_true_eq] at h5
  obtain ⟨⟨⟨⟨⟨g1, g2⟩, g3⟩, g4⟩, g5⟩, g6⟩ := h5
  simp [Cond.before, Cond.holds, Cond.value, h1, h2, h3, h4, g1, g2, g3, g4, g5, g6]
def isCode : Jvm.Cond → Bool
  | .code _ _ _ _ => true
  | _ => false
theorem all_split {L : List Jvm.Cond} {P : Jvm.Cond → Bool} (h1 : L.all (fun c => isCode c || P c) = true) (h2 : ∀ c ∈ L.filter isCode, P c = true) : L.all P = true := by
  refine List.all_eq_true.mpr fun c hc => ?_
  have h := List.all_eq_true.mp h1 c hc
  rcases Bool.eq_false_or_eq_true (isCode c) with hi | hi
  · exact h2 c (List.mem_filter.mpr ⟨hc, hi⟩)
  · simpa [hi] using h
set_option maxRecDepth 65536 in
theorem w_c0 : (Jvm.Cond.code x code maxLocals ret).before args0 about1 = true := code_word (m := ⟨1, 1⟩) (meth := k1m1) (c := k1c1) (by decide +kernel) rfl rfl rfl (by decide +kernel)
set_option maxRecDepth 65536 in
theorem w_c1 : (Jvm.Cond.code ({ cls := "com/example/compact_settings/compactsettings/text/ContinuedLines", name := "isWhiteSpace", desc := "(C)Z" } : Jvm.MethodName) prog_77_method_4_code (1 : Nat) (Option.some Jvm.ClassFile.FieldType.boolean)).before args0 about1 = true := code_word (m := ⟨2, 1⟩) (meth := k2m1) (c := k2c1) (by decide +kernel) rfl rfl rfl (by decide +kernel)
def codes1 : List Jvm.Cond := [Jvm.Cond.code x code maxLocals ret, Jvm.Cond.code ({ cls := "com/example/compact_settings/compactsettings/text/ContinuedLines", name := "isWhiteSpace", desc := "(C)Z" } : Jvm.MethodName) prog_77_method_4_code (1 : Nat) (Option.some Jvm.ClassFile.FieldType.boolean)]
set_option maxRecDepth 65536 in
theorem codes_eq : words1.filter isCode = codes1 := rfl
theorem w_codes : ∀ c ∈ words1.filter isCode, c.before args0 about1 = true := by
  rw [codes_eq]
  intro c hc
  simp only [codes1, List.mem_cons, List.not_mem_nil, or_false] at hc
  rcases hc with rfl | rfl
  · exact w_c0
  · exact w_c1
set_option maxRecDepth 65536 in
theorem w_t1 : words1.all (fun c => isCode c || c.before args0 about1) = true := by decide +kernel
theorem w_tables : (allAtoms (Jvm.Cond.code x code maxLocals ret :: tables_1)).before args0 about1 = true := by
  rw [allAtoms_all]
  show words1.all (fun c => c.before args0 about1) = true
  refine all_split ?_ w_codes
  rw [w_t1]
set_option maxRecDepth 65536 in
theorem w_case : (Jvm.Cond.and given_1 narrow_1).before args0 about1 = true := by decide +kernel
theorem w_applies : (headSpec (Jvm.Cond.code x code maxLocals ret :: tables_1) room_1).applies x e0.platform about1 = true :=
  (Spec.applies_iff w_frames).mpr ⟨w_running, w_runnable, w_alone, w_named, w_hears, w_ripe, w_room, w_tables⟩
theorem atStart : AtStart classFile x code maxLocals ret World_1 tables_1 room_1 Calls_1 rest_1 Pre_1 launch0 p0 e0 about1 theMethod args0 below0 :=
  ⟨lists_1, trivial, launch0.admits_env _ _ _, launch0.least_env, fairChoices_fair.cas, fairChoices_fair.clock, w_frames, w_args, w_heap, w_applies, trivial, trivial, w_case⟩
end start1
theorem witness_1 : WitnessClaimed_1 := ⟨start1.p0, start1.e0, start1.about1, start1.theMethod, start1.args0, start1.below0, start1.atStart⟩
end Jvm.Pilot.@@N@@
