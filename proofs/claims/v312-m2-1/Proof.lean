import JvmDerived
import JvmDerived.Pilot.@@N@@Statement
import JvmDerived.Pilot.@@N@@Code
set_option linter.unusedVariables false
set_option linter.unusedSimpArgs false

namespace Jvm.RoadKit
open Sem ClassFile Op Lib Jvm.Stand Jvm.Free Jvm.LawKit
section New
variable {p : Program} {l : Launch} {e : Env} {R : Room} {s : State} {m : MethodId} {args : Array Value} {below : List Frame} {meth : Method} {c : Code} {T : State} {locs : List Loc} {cells slots : Nat}
theorem retI (X : Stand p l e R s m args below meth c T locs cells slots) (hx : p.tables.exec = Jvm.exec) {pc : Nat} {Ls : Array Slot} {z : Int32} {rest : List Value} (hret : meth.sig.returnType = some .int) (hd : decode c.code pc = .ok (.ireturn, 1)) {fs : List Frame}
    (hl : ∀ (f : JFrame) (acts : List Action), f.method = m → f.locked = none → f.entered = [] → (doReturn e (T.setTop f) acts (some (.int z))).1 = T.setFrames fs) : Steps p.tables e below (T.setTop (mkF m pc Ls (.int z :: rest))) (T.setFrames fs) := by
  have hm' : T.vm.method? m = some meth := X.method'
  have hn : narrow .int (.int z) = .int z := rfl
  show Steps p.tables e below (T.setTop { method := m, pc := pc, locals := Ls, stack := _ :: rest, locked := none }) _
  jvm_step X.here [X.here.top, hx, hd, hm', hret, hn]
  first | (intro acts; rw [hl _ acts rfl rfl rfl]) | rw [hl _ _ rfl rfl rfl]
  exact Steps.refl _
end New
end Jvm.RoadKit
namespace Jvm.Pilot.@@N@@
open Jvm Jvm.ClassFile Sem Op Lib Jvm.Free Jvm.Stand Jvm.LawKit Jvm.RoadKit Bundle Jvm.Pilot.@@N@@.Jvm.D
theorem own_fld_int {Z : State} {args : Array Value} {t : Term} {a : Addr} {C n d : String} {k : Int32} (h : (Cond.eq (.field t C n d) (.int k)).value args Z none Z [] = some true) (ev : t.eval args Z none [] Z = some (.ref a)) : Fld Z Z.heap a C n d (.int k) := by
  apply Fld.start
  have e := fld_at (C := C) (n := n) (dd := d) ev
  cases hv : Z.fieldOf? a C n d with
  | none => rw [hv] at e; simp [Cond.value, e] at h
  | some v =>
    rw [hv] at e
    cases v <;> simp_all [Cond.value, Term.eval]
def iriOf (u i j k : Addr) : Int32 := if u = i ∨ u = j ∨ u = k then 1 else 0
theorem d1_0 : decode prog_39_method_5_code 0 = .ok (.aload_n 0, 1) := by decide +kernel
theorem d1_1 : decode prog_39_method_5_code 1 = .ok (.getstatic 3, 3) := by decide +kernel
theorem d1_4 : decode prog_39_method_5_code 4 = .ok (.if_acmp .eq 17, 3) := by decide +kernel
theorem d1_7 : decode prog_39_method_5_code 7 = .ok (.aload_n 0, 1) := by decide +kernel
theorem d1_8 : decode prog_39_method_5_code 8 = .ok (.getstatic 7, 3) := by decide +kernel
theorem d1_11 : decode prog_39_method_5_code 11 = .ok (.if_acmp .eq 10, 3) := by decide +kernel
theorem d1_14 : decode prog_39_method_5_code 14 = .ok (.aload_n 0, 1) := by decide +kernel
theorem d1_15 : decode prog_39_method_5_code 15 = .ok (.getstatic 10, 3) := by decide +kernel
theorem d1_18 : decode prog_39_method_5_code 18 = .ok (.if_acmp .ne 7, 3) := by decide +kernel
theorem d1_21 : decode prog_39_method_5_code 21 = .ok (.iconst 1, 1) := by decide +kernel
theorem d1_22 : decode prog_39_method_5_code 22 = .ok (.goto 4, 3) := by decide +kernel
theorem d1_25 : decode prog_39_method_5_code 25 = .ok (.iconst 0, 1) := by decide +kernel
theorem d1_26 : decode prog_39_method_5_code 26 = .ok (.ireturn, 1) := by decide +kernel
theorem pn_com_example_triplewright_triplewright_mapping_TermMap_TermType : plainName "com/example/triplewright/triplewright/mapping/TermMap$TermType" = true := by first | (simp [plainName, overriddenIn]; done) | decide +kernel
theorem ef_1 (m : MethodId) (u0 : Addr) : entryFrame m #[(.ref u0)] 1 = mkF m 0 #[.val (.ref u0)] [] := by first | (simp [entryFrame, mkF, argsToLocals, Value.category]; done) | rfl
def Q1 (Z : State) (u0 : Addr) (a_IRI : Addr) (a_URI : Addr) (a_UNSAFE_IRI : Addr) (h0 : Heap) (n0 : Nat) (v : Option Value) (h : Heap) (L : List Loc) : Prop := v = some (.int (iriOf u0 a_IRI a_URI a_UNSAFE_IRI)) ∧ Fr n0 L ∧ h = h0
set_option maxRecDepth 65536 in
set_option maxHeartbeats 40000000 in
theorem rm1 (l : Launch) (Z : State) (a0 : Array Value) (hw : ∀ d ∈ tables_1, d.before a0 Z = true) (ws : List Jvm.Cond) (u0 : Addr) (a_IRI : Addr) (a_URI : Addr) (a_UNSAFE_IRI : Addr) (h0 : Heap) (n0 : Nat) (Z0 : n0 ≤ h0.size) (S_IRI : Sta Z h0 "com/example/triplewright/triplewright/mapping/TermMap$TermType" "IRI" "Lcom/example/triplewright/triplewright/mapping/TermMap$TermType;" (.ref a_IRI)) (S_URI : Sta Z h0 "com/example/triplewright/triplewright/mapping/TermMap$TermType" "URI" "Lcom/example/triplewright/triplewright/mapping/TermMap$TermType;" (.ref a_URI)) (S_UNSAFE_IRI : Sta Z h0 "com/example/triplewright/triplewright/mapping/TermMap$TermType" "UNSAFE_IRI" "Lcom/example/triplewright/triplewright/mapping/TermMap$TermType;" (.ref a_UNSAFE_IRI)) :
    MetFree l (⟨"com/example/triplewright/triplewright/mapping/TermMap$TermType", "isIri", "()Z"⟩ : MethodName) (head1 (Jvm.Cond.code (⟨"com/example/triplewright/triplewright/mapping/TermMap$TermType", "isIri", "()Z"⟩ : MethodName) prog_39_method_5_code 1 (some .boolean) :: ws) ({ frames := 0, cells := 0, slots := 0, locals := 0 } : Room)) (fun a U => a = #[(.ref u0)] ∧ Z.Warmed39 U.vm ∧ U.heap = h0) (fun _ _ _ _ _ => True) (fun _ U o U' => ∃ v L, o = .returned v ∧ Q1 Z u0 a_IRI a_URI a_UNSAFE_IRI h0 n0 v U'.heap L ∧ FrameEnd U o U' L ({ frames := 0, cells := 0, slots := 0, locals := 0 } : Room).cells ({ frames := 0, cells := 0, slots := 0, locals := 0 } : Room).slots) := by
  refine MetFree.of_bodySF (plainFor_of_name pn_com_example_triplewright_triplewright_mapping_TermMap_TermType) hisR ?_
  intro p e s m args below meth c s₁ Bd hml0 hP hK
  obtain ⟨rfl, hZ, hh⟩ := hP
  have hx := Bd.exec
  have hby := Bd.bytes
  have hml : c.maxLocals = 1 := hml0
  have hown : s.vm.findClass "com/example/triplewright/triplewright/mapping/TermMap$TermType" = some m.cls := findClass_of_methodNamed Bd.named
  have hnm := (name_of_methodNamed Bd.named Bd.method).1
  have X0 : Stand p l e ({ frames := 0, cells := 0, slots := 0, locals := 0 } : Room) s m #[(.ref u0)] below meth c s₁ [] 0 0 := Stand.of_body Bd
  have e0 : s₁.heap = h0 := by rw [← hh, Bd.state]; rfl
  have N0 := Fr.nil n0
  have pre0 : ∀ t, Steps p.tables e below (s₁.setTop (mkF m 0 #[.val (.ref u0)] [])) t → Steps p.tables e below (s₁.setTop (entryFrame m #[(.ref u0)] 1)) t := fun t k => castTop (ef_1 m u0) k
  obtain ⟨T1, X1, e1, st1⟩ := getS2 X0 hx hZ hown (host := "") (Or.inl (hw _ (List.mem_of_getElem? (i := 9) rfl))) Via.refl e0 S_IRI (g := (mkF m 1 #[.val (.ref u0)] [(.ref u0)])) rfl (hb hby d1_1)
  by_cases ha4 : u0 = a_IRI
  · have hv : iriOf u0 a_IRI a_URI a_UNSAFE_IRI = (1 : Int32) := by
      unfold iriOf
      exact if_pos (by simp [ha4])
    obtain ⟨fs, hr, hrun, hended, hW, hsame⟩ := X1.leave (v := some (.int (1 : Int32))) (fun h => by rw [Bd.returns] at h; cases h)
    refine ⟨_, _, pre0 _ ?_, hrun, hended, _, _, rfl, ?_, ⟨_, rfl⟩, hW, hsame.mono (by decide) (by decide)⟩
    · show Steps p.tables e below (s₁.setTop (mkF m 0 #[.val (.ref u0)] [])) _
      refine XS.aloadN X0.here hx rfl (hb hby d1_0) rfl rfl ?_
      show Steps p.tables e below (s₁.setTop (mkF m 1 #[.val (.ref u0)] [(.ref u0)])) _
      refine st1 _ ?_
      show Steps p.tables e below (T1.setTop (mkF m 4 #[.val (.ref u0)] [(.ref a_IRI), (.ref u0)])) _
      refine Jvm.RoadKit.acmp (g := (mkF m 4 #[.val (.ref u0)] [(.ref a_IRI), (.ref u0)])) X1 hx rfl rfl rfl (pc0 := 4) (pc' := 21) (same := true) rfl (hb hby d1_4) rfl (decide_eq_true (congrArg Value.ref ha4)) (by decide) (by decide) ?_
      show Steps p.tables e below (T1.setTop (mkF m 21 #[.val (.ref u0)] [])) _
      refine XS.iconst X1.here hx rfl (hb hby d1_21) ?_
      show Steps p.tables e below (T1.setTop (mkF m 22 #[.val (.ref u0)] [(.int (1 : Int32))])) _
      refine XS.goto X1.here hx rfl (pc0 := 22) (pc' := 26) rfl (hb hby d1_22) (by decide) (by decide) ?_
      show Steps p.tables e below (T1.setTop (mkF m 26 #[.val (.ref u0)] [(.int (1 : Int32))])) _
      exact retN X1 hx (t := .boolean) Bd.returns (by simp) (hb hby d1_26) hr
    · show Q1 Z u0 a_IRI a_URI a_UNSAFE_IRI h0 n0 _ T1.heap _
      rw [e1]
      exact ⟨(by rw [hv]), N0, rfl⟩
  · obtain ⟨T2, X2, e2, st2⟩ := getS2 X1 hx hZ hown (host := "") (Or.inl (hw _ (List.mem_of_getElem? (i := 12) rfl))) Via.refl e1 S_URI (g := (mkF m 8 #[.val (.ref u0)] [(.ref u0)])) rfl (hb hby d1_8)
    by_cases ha11 : u0 = a_URI
    · have hv : iriOf u0 a_IRI a_URI a_UNSAFE_IRI = (1 : Int32) := by
        unfold iriOf
        exact if_pos (by simp [ha4, ha11])
      obtain ⟨fs, hr, hrun, hended, hW, hsame⟩ := X2.leave (v := some (.int (1 : Int32))) (fun h => by rw [Bd.returns] at h; cases h)
      refine ⟨_, _, pre0 _ ?_, hrun, hended, _, _, rfl, ?_, ⟨_, rfl⟩, hW, hsame.mono (by decide) (by decide)⟩
      · show Steps p.tables e below (s₁.setTop (mkF m 0 #[.val (.ref u0)] [])) _
        refine XS.aloadN X0.here hx rfl (hb hby d1_0) rfl rfl ?_
        show Steps p.tables e below (s₁.setTop (mkF m 1 #[.val (.ref u0)] [(.ref u0)])) _
        refine st1 _ ?_
        show Steps p.tables e below (T1.setTop (mkF m 4 #[.val (.ref u0)] [(.ref a_IRI), (.ref u0)])) _
        refine Jvm.RoadKit.acmp (g := (mkF m 4 #[.val (.ref u0)] [(.ref a_IRI), (.ref u0)])) X1 hx rfl rfl rfl (pc0 := 4) (pc' := 7) (same := false) rfl (hb hby d1_4) rfl (decide_eq_false fun q => ha4 (Value.ref.inj q)) (by decide) (by decide) ?_
        show Steps p.tables e below (T1.setTop (mkF m 7 #[.val (.ref u0)] [])) _
        refine XS.aloadN X1.here hx rfl (hb hby d1_7) rfl rfl ?_
        show Steps p.tables e below (T1.setTop (mkF m 8 #[.val (.ref u0)] [(.ref u0)])) _
        refine st2 _ ?_
        show Steps p.tables e below (T2.setTop (mkF m 11 #[.val (.ref u0)] [(.ref a_URI), (.ref u0)])) _
        refine Jvm.RoadKit.acmp (g := (mkF m 11 #[.val (.ref u0)] [(.ref a_URI), (.ref u0)])) X2 hx rfl rfl rfl (pc0 := 11) (pc' := 21) (same := true) rfl (hb hby d1_11) rfl (decide_eq_true (congrArg Value.ref ha11)) (by decide) (by decide) ?_
        show Steps p.tables e below (T2.setTop (mkF m 21 #[.val (.ref u0)] [])) _
        refine XS.iconst X2.here hx rfl (hb hby d1_21) ?_
        show Steps p.tables e below (T2.setTop (mkF m 22 #[.val (.ref u0)] [(.int (1 : Int32))])) _
        refine XS.goto X2.here hx rfl (pc0 := 22) (pc' := 26) rfl (hb hby d1_22) (by decide) (by decide) ?_
        show Steps p.tables e below (T2.setTop (mkF m 26 #[.val (.ref u0)] [(.int (1 : Int32))])) _
        exact retN X2 hx (t := .boolean) Bd.returns (by simp) (hb hby d1_26) hr
      · show Q1 Z u0 a_IRI a_URI a_UNSAFE_IRI h0 n0 _ T2.heap _
        rw [e2]
        exact ⟨(by rw [hv]), N0, rfl⟩
    · obtain ⟨T3, X3, e3, st3⟩ := getS2 X2 hx hZ hown (host := "") (Or.inl (hw _ (List.mem_of_getElem? (i := 14) rfl))) Via.refl e2 S_UNSAFE_IRI (g := (mkF m 15 #[.val (.ref u0)] [(.ref u0)])) rfl (hb hby d1_15)
      by_cases ha18 : u0 = a_UNSAFE_IRI
      · have hv : iriOf u0 a_IRI a_URI a_UNSAFE_IRI = (1 : Int32) := by
          unfold iriOf
          exact if_pos (by simp [ha4, ha11, ha18])
        obtain ⟨fs, hr, hrun, hended, hW, hsame⟩ := X3.leave (v := some (.int (1 : Int32))) (fun h => by rw [Bd.returns] at h; cases h)
        refine ⟨_, _, pre0 _ ?_, hrun, hended, _, _, rfl, ?_, ⟨_, rfl⟩, hW, hsame.mono (by decide) (by decide)⟩
        · show Steps p.tables e below (s₁.setTop (mkF m 0 #[.val (.ref u0)] [])) _
          refine XS.aloadN X0.here hx rfl (hb hby d1_0) rfl rfl ?_
          show Steps p.tables e below (s₁.setTop (mkF m 1 #[.val (.ref u0)] [(.ref u0)])) _
          refine st1 _ ?_
          show Steps p.tables e below (T1.setTop (mkF m 4 #[.val (.ref u0)] [(.ref a_IRI), (.ref u0)])) _
          refine Jvm.RoadKit.acmp (g := (mkF m 4 #[.val (.ref u0)] [(.ref a_IRI), (.ref u0)])) X1 hx rfl rfl rfl (pc0 := 4) (pc' := 7) (same := false) rfl (hb hby d1_4) rfl (decide_eq_false fun q => ha4 (Value.ref.inj q)) (by decide) (by decide) ?_
          show Steps p.tables e below (T1.setTop (mkF m 7 #[.val (.ref u0)] [])) _
          refine XS.aloadN X1.here hx rfl (hb hby d1_7) rfl rfl ?_
          show Steps p.tables e below (T1.setTop (mkF m 8 #[.val (.ref u0)] [(.ref u0)])) _
          refine st2 _ ?_
          show Steps p.tables e below (T2.setTop (mkF m 11 #[.val (.ref u0)] [(.ref a_URI), (.ref u0)])) _
          refine Jvm.RoadKit.acmp (g := (mkF m 11 #[.val (.ref u0)] [(.ref a_URI), (.ref u0)])) X2 hx rfl rfl rfl (pc0 := 11) (pc' := 14) (same := false) rfl (hb hby d1_11) rfl (decide_eq_false fun q => ha11 (Value.ref.inj q)) (by decide) (by decide) ?_
          show Steps p.tables e below (T2.setTop (mkF m 14 #[.val (.ref u0)] [])) _
          refine XS.aloadN X2.here hx rfl (hb hby d1_14) rfl rfl ?_
          show Steps p.tables e below (T2.setTop (mkF m 15 #[.val (.ref u0)] [(.ref u0)])) _
          refine st3 _ ?_
          show Steps p.tables e below (T3.setTop (mkF m 18 #[.val (.ref u0)] [(.ref a_UNSAFE_IRI), (.ref u0)])) _
          refine Jvm.RoadKit.acmp (g := (mkF m 18 #[.val (.ref u0)] [(.ref a_UNSAFE_IRI), (.ref u0)])) X3 hx rfl rfl rfl (pc0 := 18) (pc' := 21) (same := true) rfl (hb hby d1_18) rfl (decide_eq_true (congrArg Value.ref ha18)) (by decide) (by decide) ?_
          show Steps p.tables e below (T3.setTop (mkF m 21 #[.val (.ref u0)] [])) _
          refine XS.iconst X3.here hx rfl (hb hby d1_21) ?_
          show Steps p.tables e below (T3.setTop (mkF m 22 #[.val (.ref u0)] [(.int (1 : Int32))])) _
          refine XS.goto X3.here hx rfl (pc0 := 22) (pc' := 26) rfl (hb hby d1_22) (by decide) (by decide) ?_
          show Steps p.tables e below (T3.setTop (mkF m 26 #[.val (.ref u0)] [(.int (1 : Int32))])) _
          exact retN X3 hx (t := .boolean) Bd.returns (by simp) (hb hby d1_26) hr
        · show Q1 Z u0 a_IRI a_URI a_UNSAFE_IRI h0 n0 _ T3.heap _
          rw [e3]
          exact ⟨(by rw [hv]), N0, rfl⟩
      · have hv : iriOf u0 a_IRI a_URI a_UNSAFE_IRI = (0 : Int32) := by
          unfold iriOf
          exact if_neg (by simp [ha4, ha11, ha18])
        obtain ⟨fs, hr, hrun, hended, hW, hsame⟩ := X3.leave (v := some (.int (0 : Int32))) (fun h => by rw [Bd.returns] at h; cases h)
        refine ⟨_, _, pre0 _ ?_, hrun, hended, _, _, rfl, ?_, ⟨_, rfl⟩, hW, hsame.mono (by decide) (by decide)⟩
        · show Steps p.tables e below (s₁.setTop (mkF m 0 #[.val (.ref u0)] [])) _
          refine XS.aloadN X0.here hx rfl (hb hby d1_0) rfl rfl ?_
          show Steps p.tables e below (s₁.setTop (mkF m 1 #[.val (.ref u0)] [(.ref u0)])) _
          refine st1 _ ?_
          show Steps p.tables e below (T1.setTop (mkF m 4 #[.val (.ref u0)] [(.ref a_IRI), (.ref u0)])) _
          refine Jvm.RoadKit.acmp (g := (mkF m 4 #[.val (.ref u0)] [(.ref a_IRI), (.ref u0)])) X1 hx rfl rfl rfl (pc0 := 4) (pc' := 7) (same := false) rfl (hb hby d1_4) rfl (decide_eq_false fun q => ha4 (Value.ref.inj q)) (by decide) (by decide) ?_
          show Steps p.tables e below (T1.setTop (mkF m 7 #[.val (.ref u0)] [])) _
          refine XS.aloadN X1.here hx rfl (hb hby d1_7) rfl rfl ?_
          show Steps p.tables e below (T1.setTop (mkF m 8 #[.val (.ref u0)] [(.ref u0)])) _
          refine st2 _ ?_
          show Steps p.tables e below (T2.setTop (mkF m 11 #[.val (.ref u0)] [(.ref a_URI), (.ref u0)])) _
          refine Jvm.RoadKit.acmp (g := (mkF m 11 #[.val (.ref u0)] [(.ref a_URI), (.ref u0)])) X2 hx rfl rfl rfl (pc0 := 11) (pc' := 14) (same := false) rfl (hb hby d1_11) rfl (decide_eq_false fun q => ha11 (Value.ref.inj q)) (by decide) (by decide) ?_
          show Steps p.tables e below (T2.setTop (mkF m 14 #[.val (.ref u0)] [])) _
          refine XS.aloadN X2.here hx rfl (hb hby d1_14) rfl rfl ?_
          show Steps p.tables e below (T2.setTop (mkF m 15 #[.val (.ref u0)] [(.ref u0)])) _
          refine st3 _ ?_
          show Steps p.tables e below (T3.setTop (mkF m 18 #[.val (.ref u0)] [(.ref a_UNSAFE_IRI), (.ref u0)])) _
          refine Jvm.RoadKit.acmp (g := (mkF m 18 #[.val (.ref u0)] [(.ref a_UNSAFE_IRI), (.ref u0)])) X3 hx rfl rfl rfl (pc0 := 18) (pc' := 25) (same := false) rfl (hb hby d1_18) rfl (decide_eq_false fun q => ha18 (Value.ref.inj q)) (by decide) (by decide) ?_
          show Steps p.tables e below (T3.setTop (mkF m 25 #[.val (.ref u0)] [])) _
          refine XS.iconst X3.here hx rfl (hb hby d1_25) ?_
          show Steps p.tables e below (T3.setTop (mkF m 26 #[.val (.ref u0)] [(.int (0 : Int32))])) _
          exact retN X3 hx (t := .boolean) Bd.returns (by simp) (hb hby d1_26) hr
        · show Q1 Z u0 a_IRI a_URI a_UNSAFE_IRI h0 n0 _ T3.heap _
          rw [e3]
          exact ⟨(by rw [hv]), N0, rfl⟩
theorem pd_0 : parseMethodDescriptor "()Z" = some ⟨[], some .boolean⟩ := by decide +kernel
theorem pn_com_example_triplewright_triplewright_mapping_TermTypeIsIriPinLaw : plainName "com/example/triplewright/triplewright/mapping/TermTypeIsIriPinLaw" = true := by first | (simp [plainName, overriddenIn]; done) | decide +kernel
theorem ef_0 (m : MethodId) (u0 : Int32) : entryFrame m #[(.int u0)] maxLocals = mkF m 0 #[.val (.int u0), .unset, .unset, .unset] [] := by first | (simp [entryFrame, mkF, argsToLocals, Value.category, maxLocals]; done) | rfl
def Q0 (Z : State) (u0 : Int32) (a_IRI : Addr) (a_URI : Addr) (a_UNSAFE_IRI : Addr) (a_BLANK_NODE : Addr) (a_LITERAL : Addr) (h0 : Heap) (n0 : Nat) (v : Option Value) (h : Heap) (L : List Loc) : Prop := v = some (.int (1 : Int32)) ∧ Fr n0 L
set_option maxRecDepth 65536 in
set_option maxHeartbeats 40000000 in
theorem rm0 (l : Launch) (Z : State) (a0 : Array Value) (hw : ∀ d ∈ tables_1, d.before a0 Z = true) (ws : List Jvm.Cond) (u0 : Int32) (a_IRI : Addr) (a_URI : Addr) (a_UNSAFE_IRI : Addr) (a_BLANK_NODE : Addr) (a_LITERAL : Addr) (h0 : Heap) (n0 : Nat) (Z0 : n0 ≤ h0.size) (S_IRI : Sta Z h0 "com/example/triplewright/triplewright/mapping/TermMap$TermType" "IRI" "Lcom/example/triplewright/triplewright/mapping/TermMap$TermType;" (.ref a_IRI)) (S_URI : Sta Z h0 "com/example/triplewright/triplewright/mapping/TermMap$TermType" "URI" "Lcom/example/triplewright/triplewright/mapping/TermMap$TermType;" (.ref a_URI)) (S_UNSAFE_IRI : Sta Z h0 "com/example/triplewright/triplewright/mapping/TermMap$TermType" "UNSAFE_IRI" "Lcom/example/triplewright/triplewright/mapping/TermMap$TermType;" (.ref a_UNSAFE_IRI)) (S_BLANK_NODE : Sta Z h0 "com/example/triplewright/triplewright/mapping/TermMap$TermType" "BLANK_NODE" "Lcom/example/triplewright/triplewright/mapping/TermMap$TermType;" (.ref a_BLANK_NODE)) (S_LITERAL : Sta Z h0 "com/example/triplewright/triplewright/mapping/TermMap$TermType" "LITERAL" "Lcom/example/triplewright/triplewright/mapping/TermMap$TermType;" (.ref a_LITERAL)) (E_a_IRI : Exa Z h0 a_IRI "com/example/triplewright/triplewright/mapping/TermMap$TermType") (E_a_URI : Exa Z h0 a_URI "com/example/triplewright/triplewright/mapping/TermMap$TermType") (E_a_UNSAFE_IRI : Exa Z h0 a_UNSAFE_IRI "com/example/triplewright/triplewright/mapping/TermMap$TermType") (E_a_BLANK_NODE : Exa Z h0 a_BLANK_NODE "com/example/triplewright/triplewright/mapping/TermMap$TermType") (E_a_LITERAL : Exa Z h0 a_LITERAL "com/example/triplewright/triplewright/mapping/TermMap$TermType") (ne_BLANK_NODE_IRI : a_BLANK_NODE ≠ a_IRI) (ne_BLANK_NODE_URI : a_BLANK_NODE ≠ a_URI) (ne_BLANK_NODE_UNSAFE_IRI : a_BLANK_NODE ≠ a_UNSAFE_IRI) (ne_LITERAL_IRI : a_LITERAL ≠ a_IRI) (ne_LITERAL_URI : a_LITERAL ≠ a_URI) (ne_LITERAL_UNSAFE_IRI : a_LITERAL ≠ a_UNSAFE_IRI) :
    MetFree l x (head1 (Jvm.Cond.code x code maxLocals ret :: ws) room_1) (fun a U => a = #[(.int u0)] ∧ Z.Warmed39 U.vm ∧ U.heap = h0) (fun _ _ _ _ _ => True) (fun _ U o U' => ∃ v L, o = .returned v ∧ Q0 Z u0 a_IRI a_URI a_UNSAFE_IRI a_BLANK_NODE a_LITERAL h0 n0 v U'.heap L ∧ FrameEnd U o U' L room_1.cells room_1.slots) := by
  refine MetFree.of_bodySF (plainFor_of_name pn_com_example_triplewright_triplewright_mapping_TermTypeIsIriPinLaw) hisR ?_
  intro p e s m args below meth c s₁ Bd hml0 hP hK
  obtain ⟨rfl, hZ, hh⟩ := hP
  have hx := Bd.exec
  have hby := Bd.bytes
  have hml : c.maxLocals = 4 := hml0
  have hown : s.vm.findClass "com/example/triplewright/triplewright/mapping/TermTypeIsIriPinLaw" = some m.cls := findClass_of_methodNamed Bd.named
  have hnm := (name_of_methodNamed Bd.named Bd.method).1
  have X0 : Stand p l e room_1 s m #[(.int u0)] below meth c s₁ [] 0 0 := Stand.of_body Bd
  have e0 : s₁.heap = h0 := by rw [← hh, Bd.state]; rfl
  have N0 := Fr.nil n0
  have pre0 : ∀ t, Steps p.tables e below (s₁.setTop (mkF m 0 #[.val (.int u0), .unset, .unset, .unset] [])) t → Steps p.tables e below (s₁.setTop (entryFrame m #[(.int u0)] maxLocals)) t := fun t k => castTop (ef_0 m u0) k
  have st1 := X0.ldcInt hx hown (mvT hZ (hw _ (List.mem_of_getElem? (i := 0) rfl))) (g := (mkF m 1 #[.val (.int u0), .unset, .unset, .unset] [(.int u0)])) rfl (hb hby at_1)
  by_cases hc8 : ((u0 &&& (2147483647 : Int32)) % (5 : Int32)) = (0 : Int32)
  · obtain ⟨T2, X2, e2, st2⟩ := getS2 X0 hx hZ hown (host := "") (Or.inl (hw _ (List.mem_of_getElem? (i := 1) rfl))) Via.refl e0 S_IRI (g := (mkF m 11 #[.val (.int u0), .val (.int ((u0 &&& (2147483647 : Int32)) % (5 : Int32))), .unset, .unset] [])) rfl (hb hby at_11)
    obtain ⟨cq3, kq3, q3a, q3b, q3c⟩ := isOf hZ e2 E_a_IRI
    obtain ⟨_, _, ⟨T3, L3, k3, n3⟩, -, X3, ⟨Lc3, hQ3, l3, y3, z3⟩, st3⟩ := X2.virtualBack hx (y := (⟨"com/example/triplewright/triplewright/mapping/TermMap$TermType", "isIri", "()Z"⟩ : MethodName)) (z := (⟨"com/example/triplewright/triplewright/mapping/TermMap$TermType", "isIri", "()Z"⟩ : MethodName)) hown (mvT hZ (hw _ (List.mem_of_getElem? (i := 4) rfl))) (mvT hZ (hw _ (List.mem_of_getElem? (i := 5) rfl))) (notFace_of_selects (args := #[]) (mvT hZ (hw _ (List.mem_of_getElem? (i := 7) rfl)))) (mvT hZ (hw _ (List.mem_of_getElem? (i := 7) rfl))) (mvT hZ (hw _ (List.mem_of_getElem? (i := 6) rfl))) (by decide) (backOf (W := 0) (rm1 l Z a0 hw [] a_IRI a_IRI a_URI a_UNSAFE_IRI h0 n0 Z0 S_IRI S_URI S_UNSAFE_IRI) hZ (hw _ (List.mem_of_getElem? (i := 8) rfl)) (hw _ (List.mem_of_getElem? (i := 2) rfl)) (by decide) (by decide)) q3a q3c (g := (mkF m 69 #[.val (.int u0), .val (.int ((u0 &&& (2147483647 : Int32)) % (5 : Int32))), .val (.ref a_IRI), .val (.int (1 : Int32))] [(.ref a_IRI)])) rfl (by rw [hml]; rfl) (Steps.refl _) (argsL := []) (rest := []) (lenOf pd_0 rfl) rfl (by show 2 * 0 + _ ≤ _; exact Nat.le_of_eq rfl) (hb hby at_69) (fun _ _ => ⟨rfl, e2, (by decide : 0 + 0 ≤ _), (by decide : 0 + 0 ≤ _)⟩)
    dsimp only [Pt.U, Pt.locs, Pt.cells, Pt.slots] at X3 l3 y3 z3 st3 hQ3
    subst l3 y3 z3
    obtain ⟨rfl, N3q, e3⟩ := hQ3
    have N3 := Fr.app N0 N3q
    have hb73 : (iriOf a_IRI a_IRI a_URI a_UNSAFE_IRI) = (1 : Int32) := by
      unfold iriOf
      exact if_pos (by simp [ne_BLANK_NODE_IRI, ne_BLANK_NODE_URI, ne_BLANK_NODE_UNSAFE_IRI, ne_LITERAL_IRI, ne_LITERAL_URI, ne_LITERAL_UNSAFE_IRI])
    obtain ⟨fs, hr, hrun, hended, hW, hsame⟩ := X3.leave (v := some (.int (1 : Int32))) (fun h => by rw [Bd.returns] at h; cases h)
    refine ⟨_, _, pre0 _ ?_, hrun, hended, _, _, rfl, ?_, ⟨_, rfl⟩, hW, hsame.mono (by decide) (by decide)⟩
    · show Steps p.tables e below (s₁.setTop (mkF m 0 #[.val (.int u0), .unset, .unset, .unset] [])) _
      refine XS.iloadN X0.here hx rfl (hb hby at_0) rfl ?_
      show Steps p.tables e below (s₁.setTop (mkF m 1 #[.val (.int u0), .unset, .unset, .unset] [(.int u0)])) _
      refine st1 _ ?_
      show Steps p.tables e below (s₁.setTop (mkF m 3 #[.val (.int u0), .unset, .unset, .unset] [(.int (2147483647 : Int32)), (.int u0)])) _
      refine XS.iand X0.here hx rfl (hb hby at_3) rfl ?_
      show Steps p.tables e below (s₁.setTop (mkF m 4 #[.val (.int u0), .unset, .unset, .unset] [(.int (u0 &&& (2147483647 : Int32)))])) _
      refine XS.iconst X0.here hx rfl (hb hby at_4) ?_
      show Steps p.tables e below (s₁.setTop (mkF m 5 #[.val (.int u0), .unset, .unset, .unset] [(.int (5 : Int32)), (.int (u0 &&& (2147483647 : Int32)))])) _
      refine iremM X0 hx rfl (hb hby at_5) rfl (by decide) ?_
      show Steps p.tables e below (s₁.setTop (mkF m 6 #[.val (.int u0), .unset, .unset, .unset] [(.int ((u0 &&& (2147483647 : Int32)) % (5 : Int32)))])) _
      refine XS.istoreN X0.here hx rfl (hb hby at_6) rfl (l' := #[.val (.int u0), .val (.int ((u0 &&& (2147483647 : Int32)) % (5 : Int32))), .unset, .unset]) rfl ?_
      show Steps p.tables e below (s₁.setTop (mkF m 7 #[.val (.int u0), .val (.int ((u0 &&& (2147483647 : Int32)) % (5 : Int32))), .unset, .unset] [])) _
      refine XS.iloadN X0.here hx rfl (hb hby at_7) rfl ?_
      show Steps p.tables e below (s₁.setTop (mkF m 8 #[.val (.int u0), .val (.int ((u0 &&& (2147483647 : Int32)) % (5 : Int32))), .unset, .unset] [(.int ((u0 &&& (2147483647 : Int32)) % (5 : Int32)))])) _
      refine XS.ifNo X0.here hx rfl (hb hby at_8) rfl ((if0 _ _).trans (teq hc8).2) ?_
      show Steps p.tables e below (s₁.setTop (mkF m 11 #[.val (.int u0), .val (.int ((u0 &&& (2147483647 : Int32)) % (5 : Int32))), .unset, .unset] [])) _
      refine st2 _ ?_
      show Steps p.tables e below (T2.setTop (mkF m 14 #[.val (.int u0), .val (.int ((u0 &&& (2147483647 : Int32)) % (5 : Int32))), .unset, .unset] [(.ref a_IRI)])) _
      refine XS.astoreN X2.here hx rfl (hb hby at_14) rfl rfl (l' := #[.val (.int u0), .val (.int ((u0 &&& (2147483647 : Int32)) % (5 : Int32))), .val (.ref a_IRI), .unset]) rfl ?_
      show Steps p.tables e below (T2.setTop (mkF m 15 #[.val (.int u0), .val (.int ((u0 &&& (2147483647 : Int32)) % (5 : Int32))), .val (.ref a_IRI), .unset] [])) _
      refine XS.iconst X2.here hx rfl (hb hby at_15) ?_
      show Steps p.tables e below (T2.setTop (mkF m 16 #[.val (.int u0), .val (.int ((u0 &&& (2147483647 : Int32)) % (5 : Int32))), .val (.ref a_IRI), .unset] [(.int (1 : Int32))])) _
      refine XS.istoreN X2.here hx rfl (hb hby at_16) rfl (l' := #[.val (.int u0), .val (.int ((u0 &&& (2147483647 : Int32)) % (5 : Int32))), .val (.ref a_IRI), .val (.int (1 : Int32))]) rfl ?_
      show Steps p.tables e below (T2.setTop (mkF m 17 #[.val (.int u0), .val (.int ((u0 &&& (2147483647 : Int32)) % (5 : Int32))), .val (.ref a_IRI), .val (.int (1 : Int32))] [])) _
      refine XS.goto X2.here hx rfl (pc0 := 17) (pc' := 68) rfl (hb hby at_17) (by decide) (by decide) ?_
      show Steps p.tables e below (T2.setTop (mkF m 68 #[.val (.int u0), .val (.int ((u0 &&& (2147483647 : Int32)) % (5 : Int32))), .val (.ref a_IRI), .val (.int (1 : Int32))] [])) _
      refine XS.aloadN X2.here hx rfl (hb hby at_68) rfl rfl ?_
      show Steps p.tables e below (T2.setTop (mkF m 69 #[.val (.int u0), .val (.int ((u0 &&& (2147483647 : Int32)) % (5 : Int32))), .val (.ref a_IRI), .val (.int (1 : Int32))] [(.ref a_IRI)])) _
      refine st3.trans ?_
      show Steps p.tables e below (T3.setTop (mkF m 72 #[.val (.int u0), .val (.int ((u0 &&& (2147483647 : Int32)) % (5 : Int32))), .val (.ref a_IRI), .val (.int (1 : Int32))] [(.int (iriOf a_IRI a_IRI a_URI a_UNSAFE_IRI))])) _
      refine XS.iloadN X3.here hx rfl (hb hby at_72) rfl ?_
      show Steps p.tables e below (T3.setTop (mkF m 73 #[.val (.int u0), .val (.int ((u0 &&& (2147483647 : Int32)) % (5 : Int32))), .val (.ref a_IRI), .val (.int (1 : Int32))] [(.int (1 : Int32)), (.int (iriOf a_IRI a_IRI a_URI a_UNSAFE_IRI))])) _
      refine XS.icmpNo X3.here hx rfl (hb hby at_73) rfl (teq hb73).2 ?_
      show Steps p.tables e below (T3.setTop (mkF m 76 #[.val (.int u0), .val (.int ((u0 &&& (2147483647 : Int32)) % (5 : Int32))), .val (.ref a_IRI), .val (.int (1 : Int32))] [])) _
      refine XS.iconst X3.here hx rfl (hb hby at_76) ?_
      show Steps p.tables e below (T3.setTop (mkF m 77 #[.val (.int u0), .val (.int ((u0 &&& (2147483647 : Int32)) % (5 : Int32))), .val (.ref a_IRI), .val (.int (1 : Int32))] [(.int (1 : Int32))])) _
      refine XS.goto X3.here hx rfl (pc0 := 77) (pc' := 81) rfl (hb hby at_77) (by decide) (by decide) ?_
      show Steps p.tables e below (T3.setTop (mkF m 81 #[.val (.int u0), .val (.int ((u0 &&& (2147483647 : Int32)) % (5 : Int32))), .val (.ref a_IRI), .val (.int (1 : Int32))] [(.int (1 : Int32))])) _
      exact retN X3 hx (t := .boolean) Bd.returns (by simp) (hb hby at_81) hr
    · show Q0 Z u0 a_IRI a_URI a_UNSAFE_IRI a_BLANK_NODE a_LITERAL h0 n0 _ T3.heap _
      rw [e3]
      exact ⟨rfl, N3⟩
  · by_cases hc22 : ((u0 &&& (2147483647 : Int32)) % (5 : Int32)) = (1 : Int32)
    · obtain ⟨T4, X4, e4, st4⟩ := getS2 X0 hx hZ hown (host := "") (Or.inl (hw _ (List.mem_of_getElem? (i := 16) rfl))) Via.refl e0 S_URI (g := (mkF m 25 #[.val (.int u0), .val (.int ((u0 &&& (2147483647 : Int32)) % (5 : Int32))), .unset, .unset] [])) rfl (hb hby at_25)
      obtain ⟨cq5, kq5, q5a, q5b, q5c⟩ := isOf hZ e4 E_a_URI
      obtain ⟨_, _, ⟨T5, L5, k5, n5⟩, -, X5, ⟨Lc5, hQ5, l5, y5, z5⟩, st5⟩ := X4.virtualBack hx (y := (⟨"com/example/triplewright/triplewright/mapping/TermMap$TermType", "isIri", "()Z"⟩ : MethodName)) (z := (⟨"com/example/triplewright/triplewright/mapping/TermMap$TermType", "isIri", "()Z"⟩ : MethodName)) hown (mvT hZ (hw _ (List.mem_of_getElem? (i := 4) rfl))) (mvT hZ (hw _ (List.mem_of_getElem? (i := 5) rfl))) (notFace_of_selects (args := #[]) (mvT hZ (hw _ (List.mem_of_getElem? (i := 7) rfl)))) (mvT hZ (hw _ (List.mem_of_getElem? (i := 7) rfl))) (mvT hZ (hw _ (List.mem_of_getElem? (i := 6) rfl))) (by decide) (backOf (W := 0) (rm1 l Z a0 hw [] a_URI a_IRI a_URI a_UNSAFE_IRI h0 n0 Z0 S_IRI S_URI S_UNSAFE_IRI) hZ (hw _ (List.mem_of_getElem? (i := 8) rfl)) (hw _ (List.mem_of_getElem? (i := 2) rfl)) (by decide) (by decide)) q5a q5c (g := (mkF m 69 #[.val (.int u0), .val (.int ((u0 &&& (2147483647 : Int32)) % (5 : Int32))), .val (.ref a_URI), .val (.int (1 : Int32))] [(.ref a_URI)])) rfl (by rw [hml]; rfl) (Steps.refl _) (argsL := []) (rest := []) (lenOf pd_0 rfl) rfl (by show 2 * 0 + _ ≤ _; exact Nat.le_of_eq rfl) (hb hby at_69) (fun _ _ => ⟨rfl, e4, (by decide : 0 + 0 ≤ _), (by decide : 0 + 0 ≤ _)⟩)
      dsimp only [Pt.U, Pt.locs, Pt.cells, Pt.slots] at X5 l5 y5 z5 st5 hQ5
      subst l5 y5 z5
      obtain ⟨rfl, N5q, e5⟩ := hQ5
      have N5 := Fr.app N0 N5q
      have hb73 : (iriOf a_URI a_IRI a_URI a_UNSAFE_IRI) = (1 : Int32) := by
        unfold iriOf
        exact if_pos (by simp [ne_BLANK_NODE_IRI, ne_BLANK_NODE_URI, ne_BLANK_NODE_UNSAFE_IRI, ne_LITERAL_IRI, ne_LITERAL_URI, ne_LITERAL_UNSAFE_IRI])
      obtain ⟨fs, hr, hrun, hended, hW, hsame⟩ := X5.leave (v := some (.int (1 : Int32))) (fun h => by rw [Bd.returns] at h; cases h)
      refine ⟨_, _, pre0 _ ?_, hrun, hended, _, _, rfl, ?_, ⟨_, rfl⟩, hW, hsame.mono (by decide) (by decide)⟩
      · show Steps p.tables e below (s₁.setTop (mkF m 0 #[.val (.int u0), .unset, .unset, .unset] [])) _
        refine XS.iloadN X0.here hx rfl (hb hby at_0) rfl ?_
        show Steps p.tables e below (s₁.setTop (mkF m 1 #[.val (.int u0), .unset, .unset, .unset] [(.int u0)])) _
        refine st1 _ ?_
        show Steps p.tables e below (s₁.setTop (mkF m 3 #[.val (.int u0), .unset, .unset, .unset] [(.int (2147483647 : Int32)), (.int u0)])) _
        refine XS.iand X0.here hx rfl (hb hby at_3) rfl ?_
        show Steps p.tables e below (s₁.setTop (mkF m 4 #[.val (.int u0), .unset, .unset, .unset] [(.int (u0 &&& (2147483647 : Int32)))])) _
        refine XS.iconst X0.here hx rfl (hb hby at_4) ?_
        show Steps p.tables e below (s₁.setTop (mkF m 5 #[.val (.int u0), .unset, .unset, .unset] [(.int (5 : Int32)), (.int (u0 &&& (2147483647 : Int32)))])) _
        refine iremM X0 hx rfl (hb hby at_5) rfl (by decide) ?_
        show Steps p.tables e below (s₁.setTop (mkF m 6 #[.val (.int u0), .unset, .unset, .unset] [(.int ((u0 &&& (2147483647 : Int32)) % (5 : Int32)))])) _
        refine XS.istoreN X0.here hx rfl (hb hby at_6) rfl (l' := #[.val (.int u0), .val (.int ((u0 &&& (2147483647 : Int32)) % (5 : Int32))), .unset, .unset]) rfl ?_
        show Steps p.tables e below (s₁.setTop (mkF m 7 #[.val (.int u0), .val (.int ((u0 &&& (2147483647 : Int32)) % (5 : Int32))), .unset, .unset] [])) _
        refine XS.iloadN X0.here hx rfl (hb hby at_7) rfl ?_
        show Steps p.tables e below (s₁.setTop (mkF m 8 #[.val (.int u0), .val (.int ((u0 &&& (2147483647 : Int32)) % (5 : Int32))), .unset, .unset] [(.int ((u0 &&& (2147483647 : Int32)) % (5 : Int32)))])) _
        refine XS.ifYes X0.here hx rfl (pc0 := 8) (pc' := 20) rfl (hb hby at_8) rfl ((if0 _ _).trans (feq hc8).2) (by decide) (by decide) ?_
        show Steps p.tables e below (s₁.setTop (mkF m 20 #[.val (.int u0), .val (.int ((u0 &&& (2147483647 : Int32)) % (5 : Int32))), .unset, .unset] [])) _
        refine XS.iloadN X0.here hx rfl (hb hby at_20) rfl ?_
        show Steps p.tables e below (s₁.setTop (mkF m 21 #[.val (.int u0), .val (.int ((u0 &&& (2147483647 : Int32)) % (5 : Int32))), .unset, .unset] [(.int ((u0 &&& (2147483647 : Int32)) % (5 : Int32)))])) _
        refine XS.iconst X0.here hx rfl (hb hby at_21) ?_
        show Steps p.tables e below (s₁.setTop (mkF m 22 #[.val (.int u0), .val (.int ((u0 &&& (2147483647 : Int32)) % (5 : Int32))), .unset, .unset] [(.int (1 : Int32)), (.int ((u0 &&& (2147483647 : Int32)) % (5 : Int32)))])) _
        refine XS.icmpNo X0.here hx rfl (hb hby at_22) rfl (teq hc22).2 ?_
        show Steps p.tables e below (s₁.setTop (mkF m 25 #[.val (.int u0), .val (.int ((u0 &&& (2147483647 : Int32)) % (5 : Int32))), .unset, .unset] [])) _
        refine st4 _ ?_
        show Steps p.tables e below (T4.setTop (mkF m 28 #[.val (.int u0), .val (.int ((u0 &&& (2147483647 : Int32)) % (5 : Int32))), .unset, .unset] [(.ref a_URI)])) _
        refine XS.astoreN X4.here hx rfl (hb hby at_28) rfl rfl (l' := #[.val (.int u0), .val (.int ((u0 &&& (2147483647 : Int32)) % (5 : Int32))), .val (.ref a_URI), .unset]) rfl ?_
        show Steps p.tables e below (T4.setTop (mkF m 29 #[.val (.int u0), .val (.int ((u0 &&& (2147483647 : Int32)) % (5 : Int32))), .val (.ref a_URI), .unset] [])) _
        refine XS.iconst X4.here hx rfl (hb hby at_29) ?_
        show Steps p.tables e below (T4.setTop (mkF m 30 #[.val (.int u0), .val (.int ((u0 &&& (2147483647 : Int32)) % (5 : Int32))), .val (.ref a_URI), .unset] [(.int (1 : Int32))])) _
        refine XS.istoreN X4.here hx rfl (hb hby at_30) rfl (l' := #[.val (.int u0), .val (.int ((u0 &&& (2147483647 : Int32)) % (5 : Int32))), .val (.ref a_URI), .val (.int (1 : Int32))]) rfl ?_
        show Steps p.tables e below (T4.setTop (mkF m 31 #[.val (.int u0), .val (.int ((u0 &&& (2147483647 : Int32)) % (5 : Int32))), .val (.ref a_URI), .val (.int (1 : Int32))] [])) _
        refine XS.goto X4.here hx rfl (pc0 := 31) (pc' := 68) rfl (hb hby at_31) (by decide) (by decide) ?_
        show Steps p.tables e below (T4.setTop (mkF m 68 #[.val (.int u0), .val (.int ((u0 &&& (2147483647 : Int32)) % (5 : Int32))), .val (.ref a_URI), .val (.int (1 : Int32))] [])) _
        refine XS.aloadN X4.here hx rfl (hb hby at_68) rfl rfl ?_
        show Steps p.tables e below (T4.setTop (mkF m 69 #[.val (.int u0), .val (.int ((u0 &&& (2147483647 : Int32)) % (5 : Int32))), .val (.ref a_URI), .val (.int (1 : Int32))] [(.ref a_URI)])) _
        refine st5.trans ?_
        show Steps p.tables e below (T5.setTop (mkF m 72 #[.val (.int u0), .val (.int ((u0 &&& (2147483647 : Int32)) % (5 : Int32))), .val (.ref a_URI), .val (.int (1 : Int32))] [(.int (iriOf a_URI a_IRI a_URI a_UNSAFE_IRI))])) _
        refine XS.iloadN X5.here hx rfl (hb hby at_72) rfl ?_
        show Steps p.tables e below (T5.setTop (mkF m 73 #[.val (.int u0), .val (.int ((u0 &&& (2147483647 : Int32)) % (5 : Int32))), .val (.ref a_URI), .val (.int (1 : Int32))] [(.int (1 : Int32)), (.int (iriOf a_URI a_IRI a_URI a_UNSAFE_IRI))])) _
        refine XS.icmpNo X5.here hx rfl (hb hby at_73) rfl (teq hb73).2 ?_
        show Steps p.tables e below (T5.setTop (mkF m 76 #[.val (.int u0), .val (.int ((u0 &&& (2147483647 : Int32)) % (5 : Int32))), .val (.ref a_URI), .val (.int (1 : Int32))] [])) _
        refine XS.iconst X5.here hx rfl (hb hby at_76) ?_
        show Steps p.tables e below (T5.setTop (mkF m 77 #[.val (.int u0), .val (.int ((u0 &&& (2147483647 : Int32)) % (5 : Int32))), .val (.ref a_URI), .val (.int (1 : Int32))] [(.int (1 : Int32))])) _
        refine XS.goto X5.here hx rfl (pc0 := 77) (pc' := 81) rfl (hb hby at_77) (by decide) (by decide) ?_
        show Steps p.tables e below (T5.setTop (mkF m 81 #[.val (.int u0), .val (.int ((u0 &&& (2147483647 : Int32)) % (5 : Int32))), .val (.ref a_URI), .val (.int (1 : Int32))] [(.int (1 : Int32))])) _
        exact retN X5 hx (t := .boolean) Bd.returns (by simp) (hb hby at_81) hr
      · show Q0 Z u0 a_IRI a_URI a_UNSAFE_IRI a_BLANK_NODE a_LITERAL h0 n0 _ T5.heap _
        rw [e5]
        exact ⟨rfl, N5⟩
    · by_cases hc36 : ((u0 &&& (2147483647 : Int32)) % (5 : Int32)) = (2 : Int32)
      · obtain ⟨T6, X6, e6, st6⟩ := getS2 X0 hx hZ hown (host := "") (Or.inl (hw _ (List.mem_of_getElem? (i := 19) rfl))) Via.refl e0 S_UNSAFE_IRI (g := (mkF m 39 #[.val (.int u0), .val (.int ((u0 &&& (2147483647 : Int32)) % (5 : Int32))), .unset, .unset] [])) rfl (hb hby at_39)
        obtain ⟨cq7, kq7, q7a, q7b, q7c⟩ := isOf hZ e6 E_a_UNSAFE_IRI
        obtain ⟨_, _, ⟨T7, L7, k7, n7⟩, -, X7, ⟨Lc7, hQ7, l7, y7, z7⟩, st7⟩ := X6.virtualBack hx (y := (⟨"com/example/triplewright/triplewright/mapping/TermMap$TermType", "isIri", "()Z"⟩ : MethodName)) (z := (⟨"com/example/triplewright/triplewright/mapping/TermMap$TermType", "isIri", "()Z"⟩ : MethodName)) hown (mvT hZ (hw _ (List.mem_of_getElem? (i := 4) rfl))) (mvT hZ (hw _ (List.mem_of_getElem? (i := 5) rfl))) (notFace_of_selects (args := #[]) (mvT hZ (hw _ (List.mem_of_getElem? (i := 7) rfl)))) (mvT hZ (hw _ (List.mem_of_getElem? (i := 7) rfl))) (mvT hZ (hw _ (List.mem_of_getElem? (i := 6) rfl))) (by decide) (backOf (W := 0) (rm1 l Z a0 hw [] a_UNSAFE_IRI a_IRI a_URI a_UNSAFE_IRI h0 n0 Z0 S_IRI S_URI S_UNSAFE_IRI) hZ (hw _ (List.mem_of_getElem? (i := 8) rfl)) (hw _ (List.mem_of_getElem? (i := 2) rfl)) (by decide) (by decide)) q7a q7c (g := (mkF m 69 #[.val (.int u0), .val (.int ((u0 &&& (2147483647 : Int32)) % (5 : Int32))), .val (.ref a_UNSAFE_IRI), .val (.int (1 : Int32))] [(.ref a_UNSAFE_IRI)])) rfl (by rw [hml]; rfl) (Steps.refl _) (argsL := []) (rest := []) (lenOf pd_0 rfl) rfl (by show 2 * 0 + _ ≤ _; exact Nat.le_of_eq rfl) (hb hby at_69) (fun _ _ => ⟨rfl, e6, (by decide : 0 + 0 ≤ _), (by decide : 0 + 0 ≤ _)⟩)
        dsimp only [Pt.U, Pt.locs, Pt.cells, Pt.slots] at X7 l7 y7 z7 st7 hQ7
        subst l7 y7 z7
        obtain ⟨rfl, N7q, e7⟩ := hQ7
        have N7 := Fr.app N0 N7q
        have hb73 : (iriOf a_UNSAFE_IRI a_IRI a_URI a_UNSAFE_IRI) = (1 : Int32) := by
          unfold iriOf
          exact if_pos (by simp [ne_BLANK_NODE_IRI, ne_BLANK_NODE_URI, ne_BLANK_NODE_UNSAFE_IRI, ne_LITERAL_IRI, ne_LITERAL_URI, ne_LITERAL_UNSAFE_IRI])
        obtain ⟨fs, hr, hrun, hended, hW, hsame⟩ := X7.leave (v := some (.int (1 : Int32))) (fun h => by rw [Bd.returns] at h; cases h)
        refine ⟨_, _, pre0 _ ?_, hrun, hended, _, _, rfl, ?_, ⟨_, rfl⟩, hW, hsame.mono (by decide) (by decide)⟩
        · show Steps p.tables e below (s₁.setTop (mkF m 0 #[.val (.int u0), .unset, .unset, .unset] [])) _
          refine XS.iloadN X0.here hx rfl (hb hby at_0) rfl ?_
          show Steps p.tables e below (s₁.setTop (mkF m 1 #[.val (.int u0), .unset, .unset, .unset] [(.int u0)])) _
          refine st1 _ ?_
          show Steps p.tables e below (s₁.setTop (mkF m 3 #[.val (.int u0), .unset, .unset, .unset] [(.int (2147483647 : Int32)), (.int u0)])) _
          refine XS.iand X0.here hx rfl (hb hby at_3) rfl ?_
          show Steps p.tables e below (s₁.setTop (mkF m 4 #[.val (.int u0), .unset, .unset, .unset] [(.int (u0 &&& (2147483647 : Int32)))])) _
          refine XS.iconst X0.here hx rfl (hb hby at_4) ?_
          show Steps p.tables e below (s₁.setTop (mkF m 5 #[.val (.int u0), .unset, .unset, .unset] [(.int (5 : Int32)), (.int (u0 &&& (2147483647 : Int32)))])) _
          refine iremM X0 hx rfl (hb hby at_5) rfl (by decide) ?_
          show Steps p.tables e below (s₁.setTop (mkF m 6 #[.val (.int u0), .unset, .unset, .unset] [(.int ((u0 &&& (2147483647 : Int32)) % (5 : Int32)))])) _
          refine XS.istoreN X0.here hx rfl (hb hby at_6) rfl (l' := #[.val (.int u0), .val (.int ((u0 &&& (2147483647 : Int32)) % (5 : Int32))), .unset, .unset]) rfl ?_
          show Steps p.tables e below (s₁.setTop (mkF m 7 #[.val (.int u0), .val (.int ((u0 &&& (2147483647 : Int32)) % (5 : Int32))), .unset, .unset] [])) _
          refine XS.iloadN X0.here hx rfl (hb hby at_7) rfl ?_
          show Steps p.tables e below (s₁.setTop (mkF m 8 #[.val (.int u0), .val (.int ((u0 &&& (2147483647 : Int32)) % (5 : Int32))), .unset, .unset] [(.int ((u0 &&& (2147483647 : Int32)) % (5 : Int32)))])) _
          refine XS.ifYes X0.here hx rfl (pc0 := 8) (pc' := 20) rfl (hb hby at_8) rfl ((if0 _ _).trans (feq hc8).2) (by decide) (by decide) ?_
          show Steps p.tables e below (s₁.setTop (mkF m 20 #[.val (.int u0), .val (.int ((u0 &&& (2147483647 : Int32)) % (5 : Int32))), .unset, .unset] [])) _
          refine XS.iloadN X0.here hx rfl (hb hby at_20) rfl ?_
          show Steps p.tables e below (s₁.setTop (mkF m 21 #[.val (.int u0), .val (.int ((u0 &&& (2147483647 : Int32)) % (5 : Int32))), .unset, .unset] [(.int ((u0 &&& (2147483647 : Int32)) % (5 : Int32)))])) _
          refine XS.iconst X0.here hx rfl (hb hby at_21) ?_
          show Steps p.tables e below (s₁.setTop (mkF m 22 #[.val (.int u0), .val (.int ((u0 &&& (2147483647 : Int32)) % (5 : Int32))), .unset, .unset] [(.int (1 : Int32)), (.int ((u0 &&& (2147483647 : Int32)) % (5 : Int32)))])) _
          refine XS.icmpYes X0.here hx rfl (pc0 := 22) (pc' := 34) rfl (hb hby at_22) rfl (feq hc22).2 (by decide) (by decide) ?_
          show Steps p.tables e below (s₁.setTop (mkF m 34 #[.val (.int u0), .val (.int ((u0 &&& (2147483647 : Int32)) % (5 : Int32))), .unset, .unset] [])) _
          refine XS.iloadN X0.here hx rfl (hb hby at_34) rfl ?_
          show Steps p.tables e below (s₁.setTop (mkF m 35 #[.val (.int u0), .val (.int ((u0 &&& (2147483647 : Int32)) % (5 : Int32))), .unset, .unset] [(.int ((u0 &&& (2147483647 : Int32)) % (5 : Int32)))])) _
          refine XS.iconst X0.here hx rfl (hb hby at_35) ?_
          show Steps p.tables e below (s₁.setTop (mkF m 36 #[.val (.int u0), .val (.int ((u0 &&& (2147483647 : Int32)) % (5 : Int32))), .unset, .unset] [(.int (2 : Int32)), (.int ((u0 &&& (2147483647 : Int32)) % (5 : Int32)))])) _
          refine XS.icmpNo X0.here hx rfl (hb hby at_36) rfl (teq hc36).2 ?_
          show Steps p.tables e below (s₁.setTop (mkF m 39 #[.val (.int u0), .val (.int ((u0 &&& (2147483647 : Int32)) % (5 : Int32))), .unset, .unset] [])) _
          refine st6 _ ?_
          show Steps p.tables e below (T6.setTop (mkF m 42 #[.val (.int u0), .val (.int ((u0 &&& (2147483647 : Int32)) % (5 : Int32))), .unset, .unset] [(.ref a_UNSAFE_IRI)])) _
          refine XS.astoreN X6.here hx rfl (hb hby at_42) rfl rfl (l' := #[.val (.int u0), .val (.int ((u0 &&& (2147483647 : Int32)) % (5 : Int32))), .val (.ref a_UNSAFE_IRI), .unset]) rfl ?_
          show Steps p.tables e below (T6.setTop (mkF m 43 #[.val (.int u0), .val (.int ((u0 &&& (2147483647 : Int32)) % (5 : Int32))), .val (.ref a_UNSAFE_IRI), .unset] [])) _
          refine XS.iconst X6.here hx rfl (hb hby at_43) ?_
          show Steps p.tables e below (T6.setTop (mkF m 44 #[.val (.int u0), .val (.int ((u0 &&& (2147483647 : Int32)) % (5 : Int32))), .val (.ref a_UNSAFE_IRI), .unset] [(.int (1 : Int32))])) _
          refine XS.istoreN X6.here hx rfl (hb hby at_44) rfl (l' := #[.val (.int u0), .val (.int ((u0 &&& (2147483647 : Int32)) % (5 : Int32))), .val (.ref a_UNSAFE_IRI), .val (.int (1 : Int32))]) rfl ?_
          show Steps p.tables e below (T6.setTop (mkF m 45 #[.val (.int u0), .val (.int ((u0 &&& (2147483647 : Int32)) % (5 : Int32))), .val (.ref a_UNSAFE_IRI), .val (.int (1 : Int32))] [])) _
          refine XS.goto X6.here hx rfl (pc0 := 45) (pc' := 68) rfl (hb hby at_45) (by decide) (by decide) ?_
          show Steps p.tables e below (T6.setTop (mkF m 68 #[.val (.int u0), .val (.int ((u0 &&& (2147483647 : Int32)) % (5 : Int32))), .val (.ref a_UNSAFE_IRI), .val (.int (1 : Int32))] [])) _
          refine XS.aloadN X6.here hx rfl (hb hby at_68) rfl rfl ?_
          show Steps p.tables e below (T6.setTop (mkF m 69 #[.val (.int u0), .val (.int ((u0 &&& (2147483647 : Int32)) % (5 : Int32))), .val (.ref a_UNSAFE_IRI), .val (.int (1 : Int32))] [(.ref a_UNSAFE_IRI)])) _
          refine st7.trans ?_
          show Steps p.tables e below (T7.setTop (mkF m 72 #[.val (.int u0), .val (.int ((u0 &&& (2147483647 : Int32)) % (5 : Int32))), .val (.ref a_UNSAFE_IRI), .val (.int (1 : Int32))] [(.int (iriOf a_UNSAFE_IRI a_IRI a_URI a_UNSAFE_IRI))])) _
          refine XS.iloadN X7.here hx rfl (hb hby at_72) rfl ?_
          show Steps p.tables e below (T7.setTop (mkF m 73 #[.val (.int u0), .val (.int ((u0 &&& (2147483647 : Int32)) % (5 : Int32))), .val (.ref a_UNSAFE_IRI), .val (.int (1 : Int32))] [(.int (1 : Int32)), (.int (iriOf a_UNSAFE_IRI a_IRI a_URI a_UNSAFE_IRI))])) _
          refine XS.icmpNo X7.here hx rfl (hb hby at_73) rfl (teq hb73).2 ?_
          show Steps p.tables e below (T7.setTop (mkF m 76 #[.val (.int u0), .val (.int ((u0 &&& (2147483647 : Int32)) % (5 : Int32))), .val (.ref a_UNSAFE_IRI), .val (.int (1 : Int32))] [])) _
          refine XS.iconst X7.here hx rfl (hb hby at_76) ?_
          show Steps p.tables e below (T7.setTop (mkF m 77 #[.val (.int u0), .val (.int ((u0 &&& (2147483647 : Int32)) % (5 : Int32))), .val (.ref a_UNSAFE_IRI), .val (.int (1 : Int32))] [(.int (1 : Int32))])) _
          refine XS.goto X7.here hx rfl (pc0 := 77) (pc' := 81) rfl (hb hby at_77) (by decide) (by decide) ?_
          show Steps p.tables e below (T7.setTop (mkF m 81 #[.val (.int u0), .val (.int ((u0 &&& (2147483647 : Int32)) % (5 : Int32))), .val (.ref a_UNSAFE_IRI), .val (.int (1 : Int32))] [(.int (1 : Int32))])) _
          exact retN X7 hx (t := .boolean) Bd.returns (by simp) (hb hby at_81) hr
        · show Q0 Z u0 a_IRI a_URI a_UNSAFE_IRI a_BLANK_NODE a_LITERAL h0 n0 _ T7.heap _
          rw [e7]
          exact ⟨rfl, N7⟩
      · by_cases hc50 : ((u0 &&& (2147483647 : Int32)) % (5 : Int32)) = (3 : Int32)
        · obtain ⟨T8, X8, e8, st8⟩ := getS2 X0 hx hZ hown (host := "") (Or.inl (hw _ (List.mem_of_getElem? (i := 10) rfl))) Via.refl e0 S_BLANK_NODE (g := (mkF m 53 #[.val (.int u0), .val (.int ((u0 &&& (2147483647 : Int32)) % (5 : Int32))), .unset, .unset] [])) rfl (hb hby at_53)
          obtain ⟨cq9, kq9, q9a, q9b, q9c⟩ := isOf hZ e8 E_a_BLANK_NODE
          obtain ⟨_, _, ⟨T9, L9, k9, n9⟩, -, X9, ⟨Lc9, hQ9, l9, y9, z9⟩, st9⟩ := X8.virtualBack hx (y := (⟨"com/example/triplewright/triplewright/mapping/TermMap$TermType", "isIri", "()Z"⟩ : MethodName)) (z := (⟨"com/example/triplewright/triplewright/mapping/TermMap$TermType", "isIri", "()Z"⟩ : MethodName)) hown (mvT hZ (hw _ (List.mem_of_getElem? (i := 4) rfl))) (mvT hZ (hw _ (List.mem_of_getElem? (i := 5) rfl))) (notFace_of_selects (args := #[]) (mvT hZ (hw _ (List.mem_of_getElem? (i := 7) rfl)))) (mvT hZ (hw _ (List.mem_of_getElem? (i := 7) rfl))) (mvT hZ (hw _ (List.mem_of_getElem? (i := 6) rfl))) (by decide) (backOf (W := 0) (rm1 l Z a0 hw [] a_BLANK_NODE a_IRI a_URI a_UNSAFE_IRI h0 n0 Z0 S_IRI S_URI S_UNSAFE_IRI) hZ (hw _ (List.mem_of_getElem? (i := 8) rfl)) (hw _ (List.mem_of_getElem? (i := 2) rfl)) (by decide) (by decide)) q9a q9c (g := (mkF m 69 #[.val (.int u0), .val (.int ((u0 &&& (2147483647 : Int32)) % (5 : Int32))), .val (.ref a_BLANK_NODE), .val (.int (0 : Int32))] [(.ref a_BLANK_NODE)])) rfl (by rw [hml]; rfl) (Steps.refl _) (argsL := []) (rest := []) (lenOf pd_0 rfl) rfl (by show 2 * 0 + _ ≤ _; exact Nat.le_of_eq rfl) (hb hby at_69) (fun _ _ => ⟨rfl, e8, (by decide : 0 + 0 ≤ _), (by decide : 0 + 0 ≤ _)⟩)
          dsimp only [Pt.U, Pt.locs, Pt.cells, Pt.slots] at X9 l9 y9 z9 st9 hQ9
          subst l9 y9 z9
          obtain ⟨rfl, N9q, e9⟩ := hQ9
          have N9 := Fr.app N0 N9q
          have hb73 : (iriOf a_BLANK_NODE a_IRI a_URI a_UNSAFE_IRI) = (0 : Int32) := by
            unfold iriOf
            exact if_neg (by simp [ne_BLANK_NODE_IRI, ne_BLANK_NODE_URI, ne_BLANK_NODE_UNSAFE_IRI, ne_LITERAL_IRI, ne_LITERAL_URI, ne_LITERAL_UNSAFE_IRI])
          obtain ⟨fs, hr, hrun, hended, hW, hsame⟩ := X9.leave (v := some (.int (1 : Int32))) (fun h => by rw [Bd.returns] at h; cases h)
          refine ⟨_, _, pre0 _ ?_, hrun, hended, _, _, rfl, ?_, ⟨_, rfl⟩, hW, hsame.mono (by decide) (by decide)⟩
          · show Steps p.tables e below (s₁.setTop (mkF m 0 #[.val (.int u0), .unset, .unset, .unset] [])) _
            refine XS.iloadN X0.here hx rfl (hb hby at_0) rfl ?_
            show Steps p.tables e below (s₁.setTop (mkF m 1 #[.val (.int u0), .unset, .unset, .unset] [(.int u0)])) _
            refine st1 _ ?_
            show Steps p.tables e below (s₁.setTop (mkF m 3 #[.val (.int u0), .unset, .unset, .unset] [(.int (2147483647 : Int32)), (.int u0)])) _
            refine XS.iand X0.here hx rfl (hb hby at_3) rfl ?_
            show Steps p.tables e below (s₁.setTop (mkF m 4 #[.val (.int u0), .unset, .unset, .unset] [(.int (u0 &&& (2147483647 : Int32)))])) _
            refine XS.iconst X0.here hx rfl (hb hby at_4) ?_
            show Steps p.tables e below (s₁.setTop (mkF m 5 #[.val (.int u0), .unset, .unset, .unset] [(.int (5 : Int32)), (.int (u0 &&& (2147483647 : Int32)))])) _
            refine iremM X0 hx rfl (hb hby at_5) rfl (by decide) ?_
            show Steps p.tables e below (s₁.setTop (mkF m 6 #[.val (.int u0), .unset, .unset, .unset] [(.int ((u0 &&& (2147483647 : Int32)) % (5 : Int32)))])) _
            refine XS.istoreN X0.here hx rfl (hb hby at_6) rfl (l' := #[.val (.int u0), .val (.int ((u0 &&& (2147483647 : Int32)) % (5 : Int32))), .unset, .unset]) rfl ?_
            show Steps p.tables e below (s₁.setTop (mkF m 7 #[.val (.int u0), .val (.int ((u0 &&& (2147483647 : Int32)) % (5 : Int32))), .unset, .unset] [])) _
            refine XS.iloadN X0.here hx rfl (hb hby at_7) rfl ?_
            show Steps p.tables e below (s₁.setTop (mkF m 8 #[.val (.int u0), .val (.int ((u0 &&& (2147483647 : Int32)) % (5 : Int32))), .unset, .unset] [(.int ((u0 &&& (2147483647 : Int32)) % (5 : Int32)))])) _
            refine XS.ifYes X0.here hx rfl (pc0 := 8) (pc' := 20) rfl (hb hby at_8) rfl ((if0 _ _).trans (feq hc8).2) (by decide) (by decide) ?_
            show Steps p.tables e below (s₁.setTop (mkF m 20 #[.val (.int u0), .val (.int ((u0 &&& (2147483647 : Int32)) % (5 : Int32))), .unset, .unset] [])) _
            refine XS.iloadN X0.here hx rfl (hb hby at_20) rfl ?_
            show Steps p.tables e below (s₁.setTop (mkF m 21 #[.val (.int u0), .val (.int ((u0 &&& (2147483647 : Int32)) % (5 : Int32))), .unset, .unset] [(.int ((u0 &&& (2147483647 : Int32)) % (5 : Int32)))])) _
            refine XS.iconst X0.here hx rfl (hb hby at_21) ?_
            show Steps p.tables e below (s₁.setTop (mkF m 22 #[.val (.int u0), .val (.int ((u0 &&& (2147483647 : Int32)) % (5 : Int32))), .unset, .unset] [(.int (1 : Int32)), (.int ((u0 &&& (2147483647 : Int32)) % (5 : Int32)))])) _
            refine XS.icmpYes X0.here hx rfl (pc0 := 22) (pc' := 34) rfl (hb hby at_22) rfl (feq hc22).2 (by decide) (by decide) ?_
            show Steps p.tables e below (s₁.setTop (mkF m 34 #[.val (.int u0), .val (.int ((u0 &&& (2147483647 : Int32)) % (5 : Int32))), .unset, .unset] [])) _
            refine XS.iloadN X0.here hx rfl (hb hby at_34) rfl ?_
            show Steps p.tables e below (s₁.setTop (mkF m 35 #[.val (.int u0), .val (.int ((u0 &&& (2147483647 : Int32)) % (5 : Int32))), .unset, .unset] [(.int ((u0 &&& (2147483647 : Int32)) % (5 : Int32)))])) _
            refine XS.iconst X0.here hx rfl (hb hby at_35) ?_
            show Steps p.tables e below (s₁.setTop (mkF m 36 #[.val (.int u0), .val (.int ((u0 &&& (2147483647 : Int32)) % (5 : Int32))), .unset, .unset] [(.int (2 : Int32)), (.int ((u0 &&& (2147483647 : Int32)) % (5 : Int32)))])) _
            refine XS.icmpYes X0.here hx rfl (pc0 := 36) (pc' := 48) rfl (hb hby at_36) rfl (feq hc36).2 (by decide) (by decide) ?_
            show Steps p.tables e below (s₁.setTop (mkF m 48 #[.val (.int u0), .val (.int ((u0 &&& (2147483647 : Int32)) % (5 : Int32))), .unset, .unset] [])) _
            refine XS.iloadN X0.here hx rfl (hb hby at_48) rfl ?_
            show Steps p.tables e below (s₁.setTop (mkF m 49 #[.val (.int u0), .val (.int ((u0 &&& (2147483647 : Int32)) % (5 : Int32))), .unset, .unset] [(.int ((u0 &&& (2147483647 : Int32)) % (5 : Int32)))])) _
            refine XS.iconst X0.here hx rfl (hb hby at_49) ?_
            show Steps p.tables e below (s₁.setTop (mkF m 50 #[.val (.int u0), .val (.int ((u0 &&& (2147483647 : Int32)) % (5 : Int32))), .unset, .unset] [(.int (3 : Int32)), (.int ((u0 &&& (2147483647 : Int32)) % (5 : Int32)))])) _
            refine XS.icmpNo X0.here hx rfl (hb hby at_50) rfl (teq hc50).2 ?_
            show Steps p.tables e below (s₁.setTop (mkF m 53 #[.val (.int u0), .val (.int ((u0 &&& (2147483647 : Int32)) % (5 : Int32))), .unset, .unset] [])) _
            refine st8 _ ?_
            show Steps p.tables e below (T8.setTop (mkF m 56 #[.val (.int u0), .val (.int ((u0 &&& (2147483647 : Int32)) % (5 : Int32))), .unset, .unset] [(.ref a_BLANK_NODE)])) _
            refine XS.astoreN X8.here hx rfl (hb hby at_56) rfl rfl (l' := #[.val (.int u0), .val (.int ((u0 &&& (2147483647 : Int32)) % (5 : Int32))), .val (.ref a_BLANK_NODE), .unset]) rfl ?_
            show Steps p.tables e below (T8.setTop (mkF m 57 #[.val (.int u0), .val (.int ((u0 &&& (2147483647 : Int32)) % (5 : Int32))), .val (.ref a_BLANK_NODE), .unset] [])) _
            refine XS.iconst X8.here hx rfl (hb hby at_57) ?_
            show Steps p.tables e below (T8.setTop (mkF m 58 #[.val (.int u0), .val (.int ((u0 &&& (2147483647 : Int32)) % (5 : Int32))), .val (.ref a_BLANK_NODE), .unset] [(.int (0 : Int32))])) _
            refine XS.istoreN X8.here hx rfl (hb hby at_58) rfl (l' := #[.val (.int u0), .val (.int ((u0 &&& (2147483647 : Int32)) % (5 : Int32))), .val (.ref a_BLANK_NODE), .val (.int (0 : Int32))]) rfl ?_
            show Steps p.tables e below (T8.setTop (mkF m 59 #[.val (.int u0), .val (.int ((u0 &&& (2147483647 : Int32)) % (5 : Int32))), .val (.ref a_BLANK_NODE), .val (.int (0 : Int32))] [])) _
            refine XS.goto X8.here hx rfl (pc0 := 59) (pc' := 68) rfl (hb hby at_59) (by decide) (by decide) ?_
            show Steps p.tables e below (T8.setTop (mkF m 68 #[.val (.int u0), .val (.int ((u0 &&& (2147483647 : Int32)) % (5 : Int32))), .val (.ref a_BLANK_NODE), .val (.int (0 : Int32))] [])) _
            refine XS.aloadN X8.here hx rfl (hb hby at_68) rfl rfl ?_
            show Steps p.tables e below (T8.setTop (mkF m 69 #[.val (.int u0), .val (.int ((u0 &&& (2147483647 : Int32)) % (5 : Int32))), .val (.ref a_BLANK_NODE), .val (.int (0 : Int32))] [(.ref a_BLANK_NODE)])) _
            refine st9.trans ?_
            show Steps p.tables e below (T9.setTop (mkF m 72 #[.val (.int u0), .val (.int ((u0 &&& (2147483647 : Int32)) % (5 : Int32))), .val (.ref a_BLANK_NODE), .val (.int (0 : Int32))] [(.int (iriOf a_BLANK_NODE a_IRI a_URI a_UNSAFE_IRI))])) _
            refine XS.iloadN X9.here hx rfl (hb hby at_72) rfl ?_
            show Steps p.tables e below (T9.setTop (mkF m 73 #[.val (.int u0), .val (.int ((u0 &&& (2147483647 : Int32)) % (5 : Int32))), .val (.ref a_BLANK_NODE), .val (.int (0 : Int32))] [(.int (0 : Int32)), (.int (iriOf a_BLANK_NODE a_IRI a_URI a_UNSAFE_IRI))])) _
            refine XS.icmpNo X9.here hx rfl (hb hby at_73) rfl (teq hb73).2 ?_
            show Steps p.tables e below (T9.setTop (mkF m 76 #[.val (.int u0), .val (.int ((u0 &&& (2147483647 : Int32)) % (5 : Int32))), .val (.ref a_BLANK_NODE), .val (.int (0 : Int32))] [])) _
            refine XS.iconst X9.here hx rfl (hb hby at_76) ?_
            show Steps p.tables e below (T9.setTop (mkF m 77 #[.val (.int u0), .val (.int ((u0 &&& (2147483647 : Int32)) % (5 : Int32))), .val (.ref a_BLANK_NODE), .val (.int (0 : Int32))] [(.int (1 : Int32))])) _
            refine XS.goto X9.here hx rfl (pc0 := 77) (pc' := 81) rfl (hb hby at_77) (by decide) (by decide) ?_
            show Steps p.tables e below (T9.setTop (mkF m 81 #[.val (.int u0), .val (.int ((u0 &&& (2147483647 : Int32)) % (5 : Int32))), .val (.ref a_BLANK_NODE), .val (.int (0 : Int32))] [(.int (1 : Int32))])) _
            exact retN X9 hx (t := .boolean) Bd.returns (by simp) (hb hby at_81) hr
          · show Q0 Z u0 a_IRI a_URI a_UNSAFE_IRI a_BLANK_NODE a_LITERAL h0 n0 _ T9.heap _
            rw [e9]
            exact ⟨rfl, N9⟩
        · obtain ⟨T10, X10, e10, st10⟩ := getS2 X0 hx hZ hown (host := "") (Or.inl (hw _ (List.mem_of_getElem? (i := 17) rfl))) Via.refl e0 S_LITERAL (g := (mkF m 62 #[.val (.int u0), .val (.int ((u0 &&& (2147483647 : Int32)) % (5 : Int32))), .unset, .unset] [])) rfl (hb hby at_62)
          obtain ⟨cq11, kq11, q11a, q11b, q11c⟩ := isOf hZ e10 E_a_LITERAL
          obtain ⟨_, _, ⟨T11, L11, k11, n11⟩, -, X11, ⟨Lc11, hQ11, l11, y11, z11⟩, st11⟩ := X10.virtualBack hx (y := (⟨"com/example/triplewright/triplewright/mapping/TermMap$TermType", "isIri", "()Z"⟩ : MethodName)) (z := (⟨"com/example/triplewright/triplewright/mapping/TermMap$TermType", "isIri", "()Z"⟩ : MethodName)) hown (mvT hZ (hw _ (List.mem_of_getElem? (i := 4) rfl))) (mvT hZ (hw _ (List.mem_of_getElem? (i := 5) rfl))) (notFace_of_selects (args := #[]) (mvT hZ (hw _ (List.mem_of_getElem? (i := 7) rfl)))) (mvT hZ (hw _ (List.mem_of_getElem? (i := 7) rfl))) (mvT hZ (hw _ (List.mem_of_getElem? (i := 6) rfl))) (by decide) (backOf (W := 0) (rm1 l Z a0 hw [] a_LITERAL a_IRI a_URI a_UNSAFE_IRI h0 n0 Z0 S_IRI S_URI S_UNSAFE_IRI) hZ (hw _ (List.mem_of_getElem? (i := 8) rfl)) (hw _ (List.mem_of_getElem? (i := 2) rfl)) (by decide) (by decide)) q11a q11c (g := (mkF m 69 #[.val (.int u0), .val (.int ((u0 &&& (2147483647 : Int32)) % (5 : Int32))), .val (.ref a_LITERAL), .val (.int (0 : Int32))] [(.ref a_LITERAL)])) rfl (by rw [hml]; rfl) (Steps.refl _) (argsL := []) (rest := []) (lenOf pd_0 rfl) rfl (by show 2 * 0 + _ ≤ _; exact Nat.le_of_eq rfl) (hb hby at_69) (fun _ _ => ⟨rfl, e10, (by decide : 0 + 0 ≤ _), (by decide : 0 + 0 ≤ _)⟩)
          dsimp only [Pt.U, Pt.locs, Pt.cells, Pt.slots] at X11 l11 y11 z11 st11 hQ11
          subst l11 y11 z11
          obtain ⟨rfl, N11q, e11⟩ := hQ11
          have N11 := Fr.app N0 N11q
          have hb73 : (iriOf a_LITERAL a_IRI a_URI a_UNSAFE_IRI) = (0 : Int32) := by
            unfold iriOf
            exact if_neg (by simp [ne_BLANK_NODE_IRI, ne_BLANK_NODE_URI, ne_BLANK_NODE_UNSAFE_IRI, ne_LITERAL_IRI, ne_LITERAL_URI, ne_LITERAL_UNSAFE_IRI])
          obtain ⟨fs, hr, hrun, hended, hW, hsame⟩ := X11.leave (v := some (.int (1 : Int32))) (fun h => by rw [Bd.returns] at h; cases h)
          refine ⟨_, _, pre0 _ ?_, hrun, hended, _, _, rfl, ?_, ⟨_, rfl⟩, hW, hsame.mono (by decide) (by decide)⟩
          · show Steps p.tables e below (s₁.setTop (mkF m 0 #[.val (.int u0), .unset, .unset, .unset] [])) _
            refine XS.iloadN X0.here hx rfl (hb hby at_0) rfl ?_
            show Steps p.tables e below (s₁.setTop (mkF m 1 #[.val (.int u0), .unset, .unset, .unset] [(.int u0)])) _
            refine st1 _ ?_
            show Steps p.tables e below (s₁.setTop (mkF m 3 #[.val (.int u0), .unset, .unset, .unset] [(.int (2147483647 : Int32)), (.int u0)])) _
            refine XS.iand X0.here hx rfl (hb hby at_3) rfl ?_
            show Steps p.tables e below (s₁.setTop (mkF m 4 #[.val (.int u0), .unset, .unset, .unset] [(.int (u0 &&& (2147483647 : Int32)))])) _
            refine XS.iconst X0.here hx rfl (hb hby at_4) ?_
            show Steps p.tables e below (s₁.setTop (mkF m 5 #[.val (.int u0), .unset, .unset, .unset] [(.int (5 : Int32)), (.int (u0 &&& (2147483647 : Int32)))])) _
            refine iremM X0 hx rfl (hb hby at_5) rfl (by decide) ?_
            show Steps p.tables e below (s₁.setTop (mkF m 6 #[.val (.int u0), .unset, .unset, .unset] [(.int ((u0 &&& (2147483647 : Int32)) % (5 : Int32)))])) _
            refine XS.istoreN X0.here hx rfl (hb hby at_6) rfl (l' := #[.val (.int u0), .val (.int ((u0 &&& (2147483647 : Int32)) % (5 : Int32))), .unset, .unset]) rfl ?_
            show Steps p.tables e below (s₁.setTop (mkF m 7 #[.val (.int u0), .val (.int ((u0 &&& (2147483647 : Int32)) % (5 : Int32))), .unset, .unset] [])) _
            refine XS.iloadN X0.here hx rfl (hb hby at_7) rfl ?_
            show Steps p.tables e below (s₁.setTop (mkF m 8 #[.val (.int u0), .val (.int ((u0 &&& (2147483647 : Int32)) % (5 : Int32))), .unset, .unset] [(.int ((u0 &&& (2147483647 : Int32)) % (5 : Int32)))])) _
            refine XS.ifYes X0.here hx rfl (pc0 := 8) (pc' := 20) rfl (hb hby at_8) rfl ((if0 _ _).trans (feq hc8).2) (by decide) (by decide) ?_
            show Steps p.tables e below (s₁.setTop (mkF m 20 #[.val (.int u0), .val (.int ((u0 &&& (2147483647 : Int32)) % (5 : Int32))), .unset, .unset] [])) _
            refine XS.iloadN X0.here hx rfl (hb hby at_20) rfl ?_
            show Steps p.tables e below (s₁.setTop (mkF m 21 #[.val (.int u0), .val (.int ((u0 &&& (2147483647 : Int32)) % (5 : Int32))), .unset, .unset] [(.int ((u0 &&& (2147483647 : Int32)) % (5 : Int32)))])) _
            refine XS.iconst X0.here hx rfl (hb hby at_21) ?_
            show Steps p.tables e below (s₁.setTop (mkF m 22 #[.val (.int u0), .val (.int ((u0 &&& (2147483647 : Int32)) % (5 : Int32))), .unset, .unset] [(.int (1 : Int32)), (.int ((u0 &&& (2147483647 : Int32)) % (5 : Int32)))])) _
            refine XS.icmpYes X0.here hx rfl (pc0 := 22) (pc' := 34) rfl (hb hby at_22) rfl (feq hc22).2 (by decide) (by decide) ?_
            show Steps p.tables e below (s₁.setTop (mkF m 34 #[.val (.int u0), .val (.int ((u0 &&& (2147483647 : Int32)) % (5 : Int32))), .unset, .unset] [])) _
            refine XS.iloadN X0.here hx rfl (hb hby at_34) rfl ?_
            show Steps p.tables e below (s₁.setTop (mkF m 35 #[.val (.int u0), .val (.int ((u0 &&& (2147483647 : Int32)) % (5 : Int32))), .unset, .unset] [(.int ((u0 &&& (2147483647 : Int32)) % (5 : Int32)))])) _
            refine XS.iconst X0.here hx rfl (hb hby at_35) ?_
            show Steps p.tables e below (s₁.setTop (mkF m 36 #[.val (.int u0), .val (.int ((u0 &&& (2147483647 : Int32)) % (5 : Int32))), .unset, .unset] [(.int (2 : Int32)), (.int ((u0 &&& (2147483647 : Int32)) % (5 : Int32)))])) _
            refine XS.icmpYes X0.here hx rfl (pc0 := 36) (pc' := 48) rfl (hb hby at_36) rfl (feq hc36).2 (by decide) (by decide) ?_
            show Steps p.tables e below (s₁.setTop (mkF m 48 #[.val (.int u0), .val (.int ((u0 &&& (2147483647 : Int32)) % (5 : Int32))), .unset, .unset] [])) _
            refine XS.iloadN X0.here hx rfl (hb hby at_48) rfl ?_
            show Steps p.tables e below (s₁.setTop (mkF m 49 #[.val (.int u0), .val (.int ((u0 &&& (2147483647 : Int32)) % (5 : Int32))), .unset, .unset] [(.int ((u0 &&& (2147483647 : Int32)) % (5 : Int32)))])) _
            refine XS.iconst X0.here hx rfl (hb hby at_49) ?_
            show Steps p.tables e below (s₁.setTop (mkF m 50 #[.val (.int u0), .val (.int ((u0 &&& (2147483647 : Int32)) % (5 : Int32))), .unset, .unset] [(.int (3 : Int32)), (.int ((u0 &&& (2147483647 : Int32)) % (5 : Int32)))])) _
            refine XS.icmpYes X0.here hx rfl (pc0 := 50) (pc' := 62) rfl (hb hby at_50) rfl (feq hc50).2 (by decide) (by decide) ?_
            show Steps p.tables e below (s₁.setTop (mkF m 62 #[.val (.int u0), .val (.int ((u0 &&& (2147483647 : Int32)) % (5 : Int32))), .unset, .unset] [])) _
            refine st10 _ ?_
            show Steps p.tables e below (T10.setTop (mkF m 65 #[.val (.int u0), .val (.int ((u0 &&& (2147483647 : Int32)) % (5 : Int32))), .unset, .unset] [(.ref a_LITERAL)])) _
            refine XS.astoreN X10.here hx rfl (hb hby at_65) rfl rfl (l' := #[.val (.int u0), .val (.int ((u0 &&& (2147483647 : Int32)) % (5 : Int32))), .val (.ref a_LITERAL), .unset]) rfl ?_
            show Steps p.tables e below (T10.setTop (mkF m 66 #[.val (.int u0), .val (.int ((u0 &&& (2147483647 : Int32)) % (5 : Int32))), .val (.ref a_LITERAL), .unset] [])) _
            refine XS.iconst X10.here hx rfl (hb hby at_66) ?_
            show Steps p.tables e below (T10.setTop (mkF m 67 #[.val (.int u0), .val (.int ((u0 &&& (2147483647 : Int32)) % (5 : Int32))), .val (.ref a_LITERAL), .unset] [(.int (0 : Int32))])) _
            refine XS.istoreN X10.here hx rfl (hb hby at_67) rfl (l' := #[.val (.int u0), .val (.int ((u0 &&& (2147483647 : Int32)) % (5 : Int32))), .val (.ref a_LITERAL), .val (.int (0 : Int32))]) rfl ?_
            show Steps p.tables e below (T10.setTop (mkF m 68 #[.val (.int u0), .val (.int ((u0 &&& (2147483647 : Int32)) % (5 : Int32))), .val (.ref a_LITERAL), .val (.int (0 : Int32))] [])) _
            refine XS.aloadN X10.here hx rfl (hb hby at_68) rfl rfl ?_
            show Steps p.tables e below (T10.setTop (mkF m 69 #[.val (.int u0), .val (.int ((u0 &&& (2147483647 : Int32)) % (5 : Int32))), .val (.ref a_LITERAL), .val (.int (0 : Int32))] [(.ref a_LITERAL)])) _
            refine st11.trans ?_
            show Steps p.tables e below (T11.setTop (mkF m 72 #[.val (.int u0), .val (.int ((u0 &&& (2147483647 : Int32)) % (5 : Int32))), .val (.ref a_LITERAL), .val (.int (0 : Int32))] [(.int (iriOf a_LITERAL a_IRI a_URI a_UNSAFE_IRI))])) _
            refine XS.iloadN X11.here hx rfl (hb hby at_72) rfl ?_
            show Steps p.tables e below (T11.setTop (mkF m 73 #[.val (.int u0), .val (.int ((u0 &&& (2147483647 : Int32)) % (5 : Int32))), .val (.ref a_LITERAL), .val (.int (0 : Int32))] [(.int (0 : Int32)), (.int (iriOf a_LITERAL a_IRI a_URI a_UNSAFE_IRI))])) _
            refine XS.icmpNo X11.here hx rfl (hb hby at_73) rfl (teq hb73).2 ?_
            show Steps p.tables e below (T11.setTop (mkF m 76 #[.val (.int u0), .val (.int ((u0 &&& (2147483647 : Int32)) % (5 : Int32))), .val (.ref a_LITERAL), .val (.int (0 : Int32))] [])) _
            refine XS.iconst X11.here hx rfl (hb hby at_76) ?_
            show Steps p.tables e below (T11.setTop (mkF m 77 #[.val (.int u0), .val (.int ((u0 &&& (2147483647 : Int32)) % (5 : Int32))), .val (.ref a_LITERAL), .val (.int (0 : Int32))] [(.int (1 : Int32))])) _
            refine XS.goto X11.here hx rfl (pc0 := 77) (pc' := 81) rfl (hb hby at_77) (by decide) (by decide) ?_
            show Steps p.tables e below (T11.setTop (mkF m 81 #[.val (.int u0), .val (.int ((u0 &&& (2147483647 : Int32)) % (5 : Int32))), .val (.ref a_LITERAL), .val (.int (0 : Int32))] [(.int (1 : Int32))])) _
            exact retN X11 hx (t := .boolean) Bd.returns (by simp) (hb hby at_81) hr
          · show Q0 Z u0 a_IRI a_URI a_UNSAFE_IRI a_BLANK_NODE a_LITERAL h0 n0 _ T11.heap _
            rw [e11]
            exact ⟨rfl, N11⟩
set_option maxRecDepth 65536 in
set_option maxHeartbeats 40000000 in
theorem comes_1 {Post : Tables → Env → Array Value → State → Outcome → State → Prop} (hpost : ∀ tb e args s v u, (limb_1_1.after args s (.returned v) u = true ∧ limb_1_2.after args s (.returned v) u = true ∧ True) → FrameEnd s (.returned v) u (Jvm.fieldLocs frame_1_writes args s ++ Jvm.arrayLocs frame_1_arrays args s ++ Jvm.staticLocs frame_1_statics s) 0 0 → Post tb e args s (.returned v) u) :
    ArmFor flags0 classFile x code maxLocals ret World_1 tables_1 room_1 Calls_1 rest_1 Pre_1 Post := by
  intro l hfl _ _ p e ha hc hk s m args below hf hA hF happ hP
  obtain ⟨hcalls, hrest, hpre⟩ := hP
  obtain ⟨-, -, -, hnamed, -, -, -, hat⟩ := (Spec.applies_iff hf).mp happ
  obtain ⟨hg, hn⟩ := and_e (Cond.before_iff.mp (show (Jvm.Cond.and given_1 narrow_1).before args s = true from hpre))
  obtain ⟨g1, g2⟩ := and_e hg
  obtain ⟨g3, g4⟩ := and_e hn
  obtain ⟨g5, g6⟩ := and_e g4
  obtain ⟨g7, g8⟩ := and_e g6
  obtain ⟨g9, g10⟩ := and_e g8
  obtain ⟨g11, g12⟩ := and_e g10
  obtain ⟨g13, g14⟩ := and_e g12
  obtain ⟨g15, g16⟩ := and_e g14
  obtain ⟨g17, g18⟩ := and_e g16
  obtain ⟨g19, g20⟩ := and_e g18
  obtain ⟨w0, rfl⟩ : ∃ w0 : Value, args = #[w0] := by
    have hs : args.size = 1 := by simpa [Cond.value, given_1] using g1
    obtain ⟨L⟩ := args
    match L, hs with
    | [w0], _ => exact ⟨w0, rfl⟩
  have hw := fun d (hd : d ∈ tables_1) => atoms_spec (ws := Jvm.Cond.code x code maxLocals ret :: tables_1) hat d (List.mem_cons_of_mem _ hd)
  have hfit : Fit s := fun {y c} hc i hi => by
    obtain ⟨ha, rfl⟩ := Array.getElem?_eq_some_iff.mp hc
    have q := List.all_eq_true.mp ((Array.all_eq_true_iff_forall_mem.mp hF) _ (Array.getElem_mem ha)) i (List.mem_range.mpr hi)
    simpa [Array.getElem?_eq_getElem hi] using q
  obtain ⟨i0, ei0⟩ := is_v g2
  obtain rfl : w0 = (.int i0) := Option.some.inj ei0
  obtain ⟨a_IRI, ev_IRI⟩ := exa_v g3
  have E_IRI : Exa s s.heap a_IRI "com/example/triplewright/triplewright/mapping/TermMap$TermType" := Exa.start ev_IRI g3
  have S_IRI : Sta s s.heap "com/example/triplewright/triplewright/mapping/TermMap$TermType" "IRI" "Lcom/example/triplewright/triplewright/mapping/TermMap$TermType;" (.ref a_IRI) := Sta.start ev_IRI (Or.inr ⟨(hw _ (List.mem_of_getElem? (i := 2) rfl)), (hw _ (List.mem_of_getElem? (i := 3) rfl))⟩)
  obtain ⟨a_BLANK_NODE, ev_BLANK_NODE⟩ := exa_v g5
  have E_BLANK_NODE : Exa s s.heap a_BLANK_NODE "com/example/triplewright/triplewright/mapping/TermMap$TermType" := Exa.start ev_BLANK_NODE g5
  have S_BLANK_NODE : Sta s s.heap "com/example/triplewright/triplewright/mapping/TermMap$TermType" "BLANK_NODE" "Lcom/example/triplewright/triplewright/mapping/TermMap$TermType;" (.ref a_BLANK_NODE) := Sta.start ev_BLANK_NODE (Or.inr ⟨(hw _ (List.mem_of_getElem? (i := 2) rfl)), (hw _ (List.mem_of_getElem? (i := 11) rfl))⟩)
  obtain ⟨a_URI, ev_URI⟩ := exa_v g11
  have E_URI : Exa s s.heap a_URI "com/example/triplewright/triplewright/mapping/TermMap$TermType" := Exa.start ev_URI g11
  have S_URI : Sta s s.heap "com/example/triplewright/triplewright/mapping/TermMap$TermType" "URI" "Lcom/example/triplewright/triplewright/mapping/TermMap$TermType;" (.ref a_URI) := Sta.start ev_URI (Or.inr ⟨(hw _ (List.mem_of_getElem? (i := 2) rfl)), (hw _ (List.mem_of_getElem? (i := 13) rfl))⟩)
  obtain ⟨a_UNSAFE_IRI, ev_UNSAFE_IRI⟩ := exa_v g15
  have E_UNSAFE_IRI : Exa s s.heap a_UNSAFE_IRI "com/example/triplewright/triplewright/mapping/TermMap$TermType" := Exa.start ev_UNSAFE_IRI g15
  have S_UNSAFE_IRI : Sta s s.heap "com/example/triplewright/triplewright/mapping/TermMap$TermType" "UNSAFE_IRI" "Lcom/example/triplewright/triplewright/mapping/TermMap$TermType;" (.ref a_UNSAFE_IRI) := Sta.start ev_UNSAFE_IRI (Or.inr ⟨(hw _ (List.mem_of_getElem? (i := 2) rfl)), (hw _ (List.mem_of_getElem? (i := 15) rfl))⟩)
  obtain ⟨a_LITERAL, ev_LITERAL⟩ := exa_v g19
  have E_LITERAL : Exa s s.heap a_LITERAL "com/example/triplewright/triplewright/mapping/TermMap$TermType" := Exa.start ev_LITERAL g19
  have S_LITERAL : Sta s s.heap "com/example/triplewright/triplewright/mapping/TermMap$TermType" "LITERAL" "Lcom/example/triplewright/triplewright/mapping/TermMap$TermType;" (.ref a_LITERAL) := Sta.start ev_LITERAL (Or.inr ⟨(hw _ (List.mem_of_getElem? (i := 2) rfl)), (hw _ (List.mem_of_getElem? (i := 18) rfl))⟩)
  have O_BLANK_NODE : Fld s s.heap a_BLANK_NODE "java/lang/Enum" "ordinal" "I" (.int (3 : Int32)) := own_fld_int g7 ev_BLANK_NODE
  have O_IRI : Fld s s.heap a_IRI "java/lang/Enum" "ordinal" "I" (.int (0 : Int32)) := own_fld_int g9 ev_IRI
  have O_URI : Fld s s.heap a_URI "java/lang/Enum" "ordinal" "I" (.int (1 : Int32)) := own_fld_int g13 ev_URI
  have O_UNSAFE_IRI : Fld s s.heap a_UNSAFE_IRI "java/lang/Enum" "ordinal" "I" (.int (2 : Int32)) := own_fld_int g17 ev_UNSAFE_IRI
  have O_LITERAL : Fld s s.heap a_LITERAL "java/lang/Enum" "ordinal" "I" (.int (4 : Int32)) := own_fld_int g20 ev_LITERAL
  obtain ⟨n, o, h1, h2, h3, _, L, rfl, ⟨rfl, N⟩, hq⟩ := rm0 l s _ hw tables_1 i0 a_IRI a_URI a_UNSAFE_IRI a_BLANK_NODE a_LITERAL s.heap s.heap.size (Nat.le_refl _) S_IRI S_URI S_UNSAFE_IRI S_BLANK_NODE S_LITERAL E_IRI E_URI E_UNSAFE_IRI E_BLANK_NODE E_LITERAL (Fld.ne O_BLANK_NODE O_IRI (by simp)) (Fld.ne O_BLANK_NODE O_URI (by simp)) (Fld.ne O_BLANK_NODE O_UNSAFE_IRI (by simp)) (Fld.ne O_LITERAL O_IRI (by simp)) (Fld.ne O_LITERAL O_URI (by simp)) (Fld.ne O_LITERAL O_UNSAFE_IRI (by simp)) p e ha hc hk s m _ below hf ((Spec.applies_iff_loose hf).mp happ).1 ⟨rfl, State.Warmed39.refl s, rfl⟩ trivial
  refine ⟨n, _, h1, h2, h3, hpost _ _ _ _ _ _ ⟨Cond.after_iff.mpr rfl, Cond.after_iff.mpr (eq_i res_at (Term.int_eval (1)) rfl), trivial⟩ ⟨hq.1, hq.2.1, (hq.2.2.sift fun y hy => Or.inr (N y hy)).mono (by decide) (by decide)⟩⟩
theorem main_1_1 : Claimed_1_1 := comes_1 fun _ _ _ _ _ _ h hF => ⟨h.1, hF⟩
theorem main_1_2 : Claimed_1_2 := comes_1 fun _ _ _ _ _ _ h hF => ⟨h.2.1, hF⟩
end Jvm.Pilot.@@N@@
namespace Jvm.Pilot.@@N@@
open Jvm Jvm.ClassFile Sem Op Lib Jvm.Free Jvm.Stand Jvm.Pilot.@@N@@.Jvm.D
/-! MADE BY PROGRAM (witnessworld.py) out of the Statement's table words and the real class files: 12 classes; the members and pool entries that the words name. The judged class is class 1, her method 1. -/
namespace start1
open Jvm.ClassFile
def u (s : String) : CpInfo := .utf8 (stringToUtf16 s)
/-- a pool by its gaps: so many unusable entries, then the entry; so many at the end -/
def gap : Nat → List CpInfo → List CpInfo
  | 0, r => r
  | n + 1, r => .unusable :: gap n r
def poolList (es : List (Nat × CpInfo)) (last : Nat) : List CpInfo := es.foldr (fun e r => gap e.1 (e.2 :: r)) (gap last [])
def pool (es : List (Nat × CpInfo)) (last : Nat) : Array CpInfo := ⟨poolList es last⟩
def fileOf (pool : Array CpInfo) (this : Nat) (attrs : Array Attribute := #[]) (ms : Array MethodInfo := #[]) (fl : Nat := 33) (sup : Nat := 0) (ifs : Array Nat := #[]) (fds : Array FieldInfo := #[]) : ClassFile where
  minorVersion := 0
  majorVersion := 65
  constantPool := pool
  accessFlags := fl
  thisClass := this
  superClass := sup
  interfaces := ifs
  fields := fds
  methods := ms
  attributes := attrs
def plain (name : String) (sup : Option ClassId) : Class where
  name := name
  kind := .ordinary
  loader := none
  accessFlags := 33
  super := sup
  interfaces := #[]
  cf := none
  fields := #[]
  methods := #[]
  instanceTypes := #[]
  staticTypes := #[]
  resolved := #[]
  callSites := []
  init := .initialized
  statics := none
  mirror := none

def pool0 : Array CpInfo := pool [(5, u "<init>"), (0, u "()V"), (1, .class_ 10), (1, u "java/lang/Object")] 113

def k0m0 : Method := { name := "<init>", desc := "()V", sig := { parameters := [], returnType := none }, accessFlags := 1, code := none }
/-- java/lang/Object -/
def k0 : Class := { plain "java/lang/Object" none with
  accessFlags := 33
  interfaces := #[]
  cf := some (fileOf pool0 8 #[] #[{ accessFlags := 1, nameIndex := 5, descriptorIndex := 6, attributes := #[] }] 33 0 #[] #[])
  fields := #[]
  methods := #[k0m0]
  instanceTypes := #[]
  staticTypes := #[]
  resolved := Array.replicate 124 none
  statics := none }

def pool1 : Array CpInfo := pool [(2, .class_ 4), (1, u "java/lang/Object"), (0, u "<init>"), (0, u "()V"), (0, .integer 2147483647), (0, .fieldref 9 10), (0, .class_ 11), (0, .nameAndType 12 13), (0, u "com/example/triplewright/triplewright/mapping/TermMap$TermType"), (0, u "IRI"), (0, u "Lcom/example/triplewright/triplewright/mapping/TermMap$TermType;"), (0, .fieldref 9 15), (0, .nameAndType 16 13), (0, u "URI"), (0, .fieldref 9 18), (0, .nameAndType 19 13), (0, u "UNSAFE_IRI"), (0, .fieldref 9 21), (0, .nameAndType 22 13), (0, u "BLANK_NODE"), (0, .fieldref 9 24), (0, .nameAndType 25 13), (0, u "LITERAL"), (0, .methodref 9 27), (0, .nameAndType 28 29), (0, u "isIri"), (0, u "()Z"), (0, .class_ 31), (0, u "com/example/triplewright/triplewright/mapping/TermTypeIsIriPinLaw"), (2, u "law"), (0, u "(I)Z")] 7

def k1m0 : Method := { name := "<init>", desc := "()V", sig := { parameters := [], returnType := none }, accessFlags := 2, code := none }
def k1c1 : Code := { maxStack := 2, maxLocals := 4, code := code, exceptionTable := #[], attributes := #[] }
def k1m1 : Method := { name := "law", desc := "(I)Z", sig := { parameters := [.int], returnType := some .boolean }, accessFlags := 9, code := some k1c1 }
/-- com/example/triplewright/triplewright/mapping/TermTypeIsIriPinLaw -/
def k1 : Class := { plain "com/example/triplewright/triplewright/mapping/TermTypeIsIriPinLaw" (some 0) with
  accessFlags := 49
  interfaces := #[]
  cf := some (fileOf pool1 30 #[] #[{ accessFlags := 2, nameIndex := 5, descriptorIndex := 6, attributes := #[] }, { accessFlags := 9, nameIndex := 34, descriptorIndex := 35, attributes := #[] }] 49 2 #[] #[])
  fields := #[]
  methods := #[k1m0, k1m1]
  instanceTypes := #[]
  staticTypes := #[]
  resolved := Array.replicate 43 none
  statics := none }

def pool2 : Array CpInfo := pool [(1, .class_ 2), (0, u "java/lang/constant/Constable"), (0, .class_ 4), (0, u "java/lang/Object")] 6

/-- java/lang/constant/Constable -/
def k2 : Class := { plain "java/lang/constant/Constable" (some 0) with
  accessFlags := 1537
  interfaces := #[]
  cf := some (fileOf pool2 1 #[] #[] 1537 3 #[] #[])
  fields := #[]
  methods := #[]
  instanceTypes := #[]
  staticTypes := #[]
  resolved := Array.replicate 11 none
  statics := none }

def pool3 : Array CpInfo := pool [(1, .class_ 2), (0, u "java/lang/Comparable"), (0, .class_ 4), (0, u "java/lang/Object")] 7

/-- java/lang/Comparable -/
def k3 : Class := { plain "java/lang/Comparable" (some 0) with
  accessFlags := 1537
  interfaces := #[]
  cf := some (fileOf pool3 1 #[] #[] 1537 3 #[] #[])
  fields := #[]
  methods := #[]
  instanceTypes := #[]
  staticTypes := #[]
  resolved := Array.replicate 12 none
  statics := none }

def pool4 : Array CpInfo := pool [(1, .class_ 2), (0, u "java/io/Serializable"), (0, .class_ 4), (0, u "java/lang/Object")] 2

/-- java/io/Serializable -/
def k4 : Class := { plain "java/io/Serializable" (some 0) with
  accessFlags := 1537
  interfaces := #[]
  cf := some (fileOf pool4 1 #[] #[] 1537 3 #[] #[])
  fields := #[]
  methods := #[]
  instanceTypes := #[]
  staticTypes := #[]
  resolved := Array.replicate 7 none
  statics := none }

def pool5 : Array CpInfo := pool [(2, .class_ 4), (1, u "java/lang/Enum"), (0, u "name"), (0, u "Ljava/lang/String;"), (2, u "ordinal"), (0, u "I"), (1, .class_ 14), (1, u "java/lang/Object"), (4, u "hash"), (86, .class_ 108), (1, u "java/lang/Enum$EnumDesc"), (2, .class_ 112), (0, u "java/lang/constant/Constable"), (0, .class_ 114), (0, u "java/lang/Comparable"), (0, .class_ 116), (0, u "java/io/Serializable")] 87

/-- java/lang/Enum -/
def k5 : Class := { plain "java/lang/Enum" (some 0) with
  accessFlags := 1057
  interfaces := #[2, 3, 4]
  cf := some (fileOf pool5 2 #[.nestMembers #[106]] #[] 1057 12 #[111, 113, 115] #[{ accessFlags := 18, nameIndex := 5, descriptorIndex := 6, attributes := #[] }, { accessFlags := 18, nameIndex := 9, descriptorIndex := 10, attributes := #[] }, { accessFlags := 2, nameIndex := 19, descriptorIndex := 10, attributes := #[] }])
  fields := #[{ name := "name", type := (.object "java/lang/String"), accessFlags := 18, slot := 0, constantValue := 0 }, { name := "ordinal", type := .int, accessFlags := 18, slot := 1, constantValue := 0 }, { name := "hash", type := .int, accessFlags := 2, slot := 2, constantValue := 0 }]
  methods := #[]
  instanceTypes := #[(.object "java/lang/String"), .int, .int]
  staticTypes := #[]
  resolved := Array.replicate 204 none
  statics := none }

def pool6 : Array CpInfo := pool [(1, .class_ 2), (0, u "com/example/triplewright/triplewright/mapping/TermMap$TermType"), (0, .fieldref 1 4), (0, .nameAndType 5 6), (0, u "IRI"), (0, u "Lcom/example/triplewright/triplewright/mapping/TermMap$TermType;"), (0, .fieldref 1 8), (0, .nameAndType 9 6), (0, u "URI"), (0, .fieldref 1 11), (0, .nameAndType 12 6), (0, u "UNSAFE_IRI"), (2, u "BLANK_NODE"), (2, u "LITERAL"), (2, u "$VALUES"), (0, u "[Lcom/example/triplewright/triplewright/mapping/TermMap$TermType;"), (6, .class_ 31), (1, u "java/lang/Enum"), (8, u "iri"), (0, u "Lcom/example/triplewright/triplewright/rdf/Iri;"), (32, u "isIri"), (0, u "()Z"), (7, .class_ 84), (0, u "com/example/triplewright/triplewright/mapping/TermMap")] 2

def k6c0 : Code := { maxStack := 2, maxLocals := 1, code := prog_39_method_5_code, exceptionTable := #[], attributes := #[] }
def k6m0 : Method := { name := "isIri", desc := "()Z", sig := { parameters := [], returnType := some .boolean }, accessFlags := 1, code := some k6c0 }
/-- com/example/triplewright/triplewright/mapping/TermMap$TermType -/
def k6 : Class := { plain "com/example/triplewright/triplewright/mapping/TermMap$TermType" (some 5) with
  accessFlags := 16433
  interfaces := #[]
  cf := some (fileOf pool6 1 #[.nestHost 83] #[{ accessFlags := 1, nameIndex := 74, descriptorIndex := 75, attributes := #[] }] 16433 29 #[] #[{ accessFlags := 16409, nameIndex := 5, descriptorIndex := 6, attributes := #[] }, { accessFlags := 16409, nameIndex := 9, descriptorIndex := 6, attributes := #[] }, { accessFlags := 16409, nameIndex := 12, descriptorIndex := 6, attributes := #[] }, { accessFlags := 16409, nameIndex := 15, descriptorIndex := 6, attributes := #[] }, { accessFlags := 16409, nameIndex := 18, descriptorIndex := 6, attributes := #[] }, { accessFlags := 18, nameIndex := 40, descriptorIndex := 41, attributes := #[] }, { accessFlags := 4122, nameIndex := 21, descriptorIndex := 22, attributes := #[] }])
  fields := #[{ name := "IRI", type := (.object "com/example/triplewright/triplewright/mapping/TermMap$TermType"), accessFlags := 16409, slot := 0, constantValue := 0 }, { name := "URI", type := (.object "com/example/triplewright/triplewright/mapping/TermMap$TermType"), accessFlags := 16409, slot := 1, constantValue := 0 }, { name := "UNSAFE_IRI", type := (.object "com/example/triplewright/triplewright/mapping/TermMap$TermType"), accessFlags := 16409, slot := 2, constantValue := 0 }, { name := "BLANK_NODE", type := (.object "com/example/triplewright/triplewright/mapping/TermMap$TermType"), accessFlags := 16409, slot := 3, constantValue := 0 }, { name := "LITERAL", type := (.object "com/example/triplewright/triplewright/mapping/TermMap$TermType"), accessFlags := 16409, slot := 4, constantValue := 0 }, { name := "iri", type := (.object "com/example/triplewright/triplewright/rdf/Iri"), accessFlags := 18, slot := 3, constantValue := 0 }, { name := "$VALUES", type := (.array (.object "com/example/triplewright/triplewright/mapping/TermMap$TermType")), accessFlags := 4122, slot := 5, constantValue := 0 }]
  methods := #[k6m0]
  instanceTypes := #[(.object "java/lang/String"), .int, .int, (.object "com/example/triplewright/triplewright/rdf/Iri")]
  staticTypes := #[(.object "com/example/triplewright/triplewright/mapping/TermMap$TermType"), (.object "com/example/triplewright/triplewright/mapping/TermMap$TermType"), (.object "com/example/triplewright/triplewright/mapping/TermMap$TermType"), (.object "com/example/triplewright/triplewright/mapping/TermMap$TermType"), (.object "com/example/triplewright/triplewright/mapping/TermMap$TermType"), (.array (.object "com/example/triplewright/triplewright/mapping/TermMap$TermType"))]
  resolved := Array.replicate 87 none
  statics := some 0 }

def pool7 : Array CpInfo := pool [(1, u "java/lang/Cloneable"), (0, .class_ 1), (0, u "java/lang/Object"), (0, .class_ 3)] 3

/-- java/lang/Cloneable -/
def k7 : Class := { plain "java/lang/Cloneable" (some 0) with
  accessFlags := 1537
  interfaces := #[]
  cf := some (fileOf pool7 2 #[] #[] 1537 4 #[] #[])
  fields := #[]
  methods := #[]
  instanceTypes := #[]
  staticTypes := #[]
  resolved := Array.replicate 8 none
  statics := none }

/-- the primitive byte -/
def k8 : Class := { plain "byte" none with kind := .primitive 'B', accessFlags := 0x411 }
/-- [B -/
def k9 : Class := { plain "[B" (some 0) with kind := .array 8 .byte, interfaces := #[7, 4], accessFlags := 1041 }

/-- the primitive int -/
def k10 : Class := { plain "int" none with kind := .primitive 'I', accessFlags := 0x411 }
/-- [I -/
def k11 : Class := { plain "[I" (some 0) with kind := .array 10 .int, interfaces := #[7, 4], accessFlags := 1041 }

def heap : Heap := #[{ cls := 6, slots := #[.ref 1, .ref 2, .ref 3, .ref 4, .ref 5, .null], vm := .statics 6 },
  { cls := 6, slots := #[.null, .int 0, .int 0, .null], vm := .none },
  { cls := 6, slots := #[.null, .int 1, .int 0, .null], vm := .none },
  { cls := 6, slots := #[.null, .int 2, .int 0, .null], vm := .none },
  { cls := 6, slots := #[.null, .int 3, .int 0, .null], vm := .none },
  { cls := 6, slots := #[.null, .int 4, .int 0, .null], vm := .none }]
def classes : Array Class := #[k0, k1, k2, k3, k4, k5, k6, k7, k8, k9, k10, k11]
def interned : List (Array UInt16 × Addr) := []
def slotsUsed : Nat := 26
def theMethod : MethodId := ⟨1, 1⟩
def args0 : Array Value := #[.int 5]
def aboutOver (below : List Frame) : State where
  vm := { classes := classes, interned := interned.toArray }
  heap := heap
  slotsUsed := slotsUsed
  threads := #[{ frames := .invoking theMethod args0 :: below }]
def below0 : List Frame := [.native { method := ⟨0, 0⟩, args := #[] }]
def about1 : State := aboutOver below0
def p0 : Program := .bare "" "" ""
def e0 : Env := launch0.env 0 0 0
theorem w_frames : about1.frames = Frame.invoking theMethod args0 :: below0 := rfl
set_option maxRecDepth 65536 in
theorem w_args : argsFit about1.vm theMethod args0 = true := by decide +kernel
set_option maxRecDepth 65536 in
theorem w_heap : heapFits about1 = true := by decide +kernel
set_option maxRecDepth 65536 in
theorem w_runnable : about1.curStatus? = some .runnable := by decide +kernel
set_option maxRecDepth 65536 in
theorem w_alone : about1.alone = true := by decide +kernel
set_option maxRecDepth 65536 in
theorem w_named : about1.methodNamed? x = some theMethod := by decide +kernel
set_option maxRecDepth 65536 in
theorem w_hears : about1.hears theMethod below0 = true := by decide +kernel
set_option maxRecDepth 65536 in
theorem w_ripe : about1.ripe theMethod args0 below0 = true := by decide +kernel
theorem w_running : about1.status = .running := rfl
set_option maxRecDepth 65536 in
theorem w_room : about1.hasRoom e0.platform room_1 = true :=
  launch0.hasRoom_least _ room_1 (by decide +kernel) (by decide +kernel) (by decide +kernel) (by decide +kernel) (by decide +kernel) (by decide +kernel)
theorem allAtoms_all (ts : List Jvm.Cond) (a : Array Jvm.Value) (st : Jvm.State) : (allAtoms ts).before a st = ts.all (fun c => c.before a st) := by
  induction ts with
  | nil => rfl
  | cons c t ih =>
    show (Jvm.Cond.and c (allAtoms t)).before a st = _
    rw [Jvm.Cond.before_and, ih, List.all_cons]
def words1 : List Jvm.Cond := Jvm.Cond.code x code maxLocals ret :: tables_1
/-- a 'code' word, met by the world's own term for the bytes: nothing is compared byte by byte -/
theorem code_word {y : MethodName} {bytes : ByteArray} {mx : Nat} {rt : Option FieldType} {a : Array Value} {s : State} {m : MethodId} {meth : Method} {c : Code} (h1 : s.methodNamed? y = some m) (h2 : s.vm.method? m = some meth) (h3 : meth.code = some c) (h4 : c.code = bytes)
    (h5 : (c.maxLocals == mx && c.exceptionTable.isEmpty && decide (c.maxStack ≤ mostOperands) && decide (meth.sig.returnType = rt) && !meth.locks && decide (parseMethodDescriptor y.desc = some meth.sig)) = true) : (Jvm.Cond.code y bytes mx rt).before a s = true := by
  simp only [Bool.and_eq_true, beq_iff_eq, Bool.not_eq_true', decide_eq_true_eq] at h5
  obtain ⟨⟨⟨⟨⟨g1, g2⟩, g3⟩, g4⟩, g5⟩, g6⟩ := h5
  simp [Cond.before, Cond.holds, Cond.value, h1, h2, h3, h4, g1, g2, g3, g4, g5, g6]
def isCode : Jvm.Cond → Bool
  | .code _ _ _ _ => true
  | _ => false
theorem all_split {L : List Jvm.Cond} {P : Jvm.Cond → Bool} (h1 : L.all (fun c => isCode c || P c) = true) (h2 : ∀ c ∈ L.filter isCode, P c = true) : L.all P = true := by
  refine List.all_eq_true.mpr fun c hc => ?_
  have h := List.all_eq_true.mp h1 c hc
  rcases Bool.eq_false_or_eq_true (isCode c) with hi | hi
  · exact h2 c (List.mem_filter.mpr ⟨hc, hi⟩)
  · simpa [hi] using h
set_option maxRecDepth 65536 in
theorem w_c0 : (Jvm.Cond.code x code maxLocals ret).before args0 about1 = true := code_word (m := ⟨1, 1⟩) (meth := k1m1) (c := k1c1) (by decide +kernel) rfl rfl rfl (by decide +kernel)
set_option maxRecDepth 65536 in
theorem w_c1 : (Jvm.Cond.code ({ cls := "com/example/triplewright/triplewright/mapping/TermMap$TermType", name := "isIri", desc := "()Z" } : Jvm.MethodName) prog_39_method_5_code (1 : Nat) (Option.some Jvm.ClassFile.FieldType.boolean)).before args0 about1 = true := code_word (m := ⟨6, 0⟩) (meth := k6m0) (c := k6c0) (by decide +kernel) rfl rfl rfl (by decide +kernel)
def codes1 : List Jvm.Cond := [Jvm.Cond.code x code maxLocals ret, Jvm.Cond.code ({ cls := "com/example/triplewright/triplewright/mapping/TermMap$TermType", name := "isIri", desc := "()Z" } : Jvm.MethodName) prog_39_method_5_code (1 : Nat) (Option.some Jvm.ClassFile.FieldType.boolean)]
set_option maxRecDepth 65536 in
theorem codes_eq : words1.filter isCode = codes1 := rfl
theorem w_codes : ∀ c ∈ words1.filter isCode, c.before args0 about1 = true := by
  rw [codes_eq]
  intro c hc
  simp only [codes1, List.mem_cons, List.not_mem_nil, or_false] at hc
  rcases hc with rfl | rfl
  · exact w_c0
  · exact w_c1
set_option maxRecDepth 65536 in
theorem w_t1 : words1.all (fun c => isCode c || c.before args0 about1) = true := by decide +kernel
theorem w_tables : (allAtoms (Jvm.Cond.code x code maxLocals ret :: tables_1)).before args0 about1 = true := by
  rw [allAtoms_all]
  show words1.all (fun c => c.before args0 about1) = true
  refine all_split ?_ w_codes
  rw [w_t1]
set_option maxRecDepth 65536 in
theorem w_case : (Jvm.Cond.and given_1 narrow_1).before args0 about1 = true := by decide +kernel
theorem w_applies : (headSpec (Jvm.Cond.code x code maxLocals ret :: tables_1) room_1).applies x e0.platform about1 = true :=
  (Spec.applies_iff w_frames).mpr ⟨w_running, w_runnable, w_alone, w_named, w_hears, w_ripe, w_room, w_tables⟩
theorem atStart : AtStart classFile x code maxLocals ret World_1 tables_1 room_1 Calls_1 rest_1 Pre_1 launch0 p0 e0 about1 theMethod args0 below0 :=
  ⟨lists_1, trivial, launch0.admits_env _ _ _, launch0.least_env, fairChoices_fair.cas, fairChoices_fair.clock, w_frames, w_args, w_heap, w_applies, trivial, trivial, w_case⟩
end start1
theorem witness_1 : WitnessClaimed_1 := ⟨start1.p0, start1.e0, start1.about1, start1.theMethod, start1.args0, start1.below0, start1.atStart⟩
end Jvm.Pilot.@@N@@
