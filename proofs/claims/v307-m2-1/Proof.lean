import JvmDerived
import JvmDerived.Pilot.@@N@@Statement
import JvmDerived.Pilot.@@N@@Code
set_option linter.unusedVariables false
set_option linter.unusedSimpArgs false

namespace Jvm.RoadKit
open Sem ClassFile Op Lib Jvm.Stand Jvm.Free Jvm.LawKit
section New
variable {p : Program} {l : Launch} {e : Env} {R : Room} {s : State} {m : MethodId} {args : Array Value} {below : List Frame} {meth : Method} {c : Code} {T : State} {locs : List Loc} {cells slots : Nat}
theorem retI (X : Stand p l e R s m args below meth c T locs cells slots) (hx : p.tables.exec = Jvm.exec) {pc : Nat} {Ls : Array Slot} {z : Int32} {rest : List Value} (hret : meth.sig.returnType = some .int) (hd : decode c.code pc = .ok (.ireturn, 1)) {fs : List Frame}
    (hl : ∀ (f : JFrame) (acts : List Action), f.method = m → f.locked = none → f.entered = [] → (doReturn e (T.setTop f) acts (some (.int z))).1 = T.setFrames fs) : Steps p.tables e below (T.setTop (mkF m pc Ls (.int z :: rest))) (T.setFrames fs) := by
  have hm' : T.vm.method? m = some meth := X.method'
  have hn : narrow .int (.int z) = .int z := rfl
  show Steps p.tables e below (T.setTop { method := m, pc := pc, locals := Ls, stack := _ :: rest, locked := none }) _
  jvm_step X.here [X.here.top, hx, hd, hm', hret, hn]
  first | (intro acts; rw [hl _ acts rfl rfl rfl]) | rw [hl _ _ rfl rfl rfl]
  exact Steps.refl _
end New
end Jvm.RoadKit
namespace Jvm.Pilot.@@N@@
open Jvm Jvm.ClassFile Sem Op Lib Jvm.Free Jvm.Stand Jvm.LawKit Jvm.RoadKit Bundle Jvm.Pilot.@@N@@.Jvm.D
def EL : List (String × Nat) := []
theorem hEL {Z : State} {a0 : Array Value} (hw : ∀ d ∈ tables_1, d.before a0 Z = true) : EW Z a0 EL := EW.nil
theorem own_since (s : State) : s.Since s.vm s.heap.size := (State.WarmedH.refl s).since _
theorem own_monoW {s t : State} {o : Outcome} {L : List Loc} {k n k' n' : Nat} (h : ReturnedEndW s o t L k n) (h1 : k ≤ k') (h2 : n ≤ n') : ReturnedEndW s o t L k' n' := ⟨h.1, h.2.1, h.2.2.1, h.2.2.2.mono h1 h2⟩
theorem Safe.fresh {Z : State} {vm : Vm} {h : Heap} {x : Addr} (hal : Z.vm.Alike vm) (E : Exa Z h x "java/lang/String") (V : Fld Z h x "java/lang/String" "value" "[B" .null) : Safe Z EL vm h x := fun B => by
  obtain ⟨p, -, u, a, -, q, -, F, rfl | rfl⟩ := B
  · obtain ⟨cell, cf, k, i, f, v1, v2, v3, v4, v5, v6, v7⟩ := V
    cases (show h[q.sa]? = some q.sC from F.ha).symm.trans v1
    obtain ⟨cS, ⟨⟨s1, s2, s3, ⟨cv, kv, iv, s4, s4'⟩, ⟨cc, kc, ic, s5, s5'⟩, s6, s7, s8, s9, s10, s11, s12, s13, s14, s15, s16⟩, hfS, hcS⟩, -⟩ := F
    obtain ⟨kv', z4⟩ := ff_back (U := Wst Z vm h) hal s4
    cases v2.symm.trans z4
    cases s8.symm.trans v7
  · obtain ⟨cell, k, e1, e2, e3, -, -⟩ := E
    cases (show h[q.sd]? = some q.SA from F.hd).symm.trans e1
    obtain ⟨cS, -, -, f, -⟩ := F
    have f' : vm.findClass "[B" = some q.SA.cls := f
    rw [hal.findClass] at f'
    obtain ⟨k1, q1, q2⟩ := Vm.findClass_spec f'
    obtain ⟨k2, q3, q4⟩ := Vm.findClass_spec e2
    cases q1.symm.trans q3
    exact absurd (q2.symm.trans q4) (by decide)
def pk (k : Int32) (i j o : Addr) : Addr := if k = 1 then i else if k = 2 then j else o
theorem pk_exa {Z : State} {h : Heap} {C : String} {i j o : Addr} (k : Int32) (Ei : Exa Z h i C) (Ej : Exa Z h j C) (Eo : Exa Z h o C) : Exa Z h (pk k i j o) C := by
  unfold pk
  repeat' split
  all_goals assumption
theorem own_m20 (x : Int32) : 0 ≤ (x &&& (1048575 : Int32)).toInt ∧ (x &&& (1048575 : Int32)).toInt ≤ 1048575 := by
  have q := c_and x 1048575 (by decide)
  have e : (1048575 : Int32).toInt = 1048575 := by decide
  rw [e] at q
  exact q
theorem own_b24 (x : Int32) : B24 (x &&& (1048575 : Int32)).toInt64 := by
  have q := own_m20 x
  have e := Int32.toInt_toInt64 (x &&& (1048575 : Int32))
  constructor <;> omega
theorem own_b0 : B24 0 := by constructor <;> decide
theorem own_c0 (x : Int32) : ¬ cmpValue (FP.fcmp (FP.i2f (x &&& (1048575 : Int32))) (0 : UInt32)) .l < 0 := by
  have e : (0 : UInt32) = FP.l2f 0 := l2f_zero.symm
  rw [i2f_w, e, fcmpV_w (own_b24 x) own_b0, lw_lt, Int64.lt_iff_toInt_lt, Int32.toInt_toInt64]
  have q := own_m20 x
  have e0 : (0 : Int64).toInt = 0 := by decide
  omega
theorem own_c1 (x : Int32) : cmpValue (FP.fcmp (FP.i2f (x &&& (1048575 : Int32))) (2139095040 : UInt32)) .g < 0 := by
  rw [fcmp_pinf (Jvm.Free.Fl.i2f_fin _)]
  decide
theorem d1_0 : decode method_3_code 0 = .ok (.iload_n 0, 1) := by decide +kernel
theorem d1_1 : decode method_3_code 1 = .ok (.iconst 1, 1) := by decide +kernel
theorem d1_2 : decode method_3_code 2 = .ok (.if_icmp .ne 7, 3) := by decide +kernel
theorem d1_5 : decode method_3_code 5 = .ok (.getstatic 95, 3) := by decide +kernel
theorem d1_8 : decode method_3_code 8 = .ok (.areturn, 1) := by decide +kernel
theorem d1_9 : decode method_3_code 9 = .ok (.iload_n 0, 1) := by decide +kernel
theorem d1_10 : decode method_3_code 10 = .ok (.iconst 2, 1) := by decide +kernel
theorem d1_11 : decode method_3_code 11 = .ok (.if_icmp .ne 7, 3) := by decide +kernel
theorem d1_14 : decode method_3_code 14 = .ok (.getstatic 101, 3) := by decide +kernel
theorem d1_17 : decode method_3_code 17 = .ok (.areturn, 1) := by decide +kernel
theorem d1_18 : decode method_3_code 18 = .ok (.getstatic 104, 3) := by decide +kernel
theorem d1_21 : decode method_3_code 21 = .ok (.areturn, 1) := by decide +kernel
theorem pn_com_example_decorum_decorum_graphics_PaintSetPinLaw : plainName "com/example/decorum/decorum/graphics/PaintSetPinLaw" = true := by first | (simp [plainName, overriddenIn]; done) | decide +kernel
theorem ef_1 (m : MethodId) (u0 : Int32) : entryFrame m #[(.int u0)] 1 = mkF m 0 #[.val (.int u0)] [] := by first | (simp [entryFrame, mkF, argsToLocals, Value.category]; done) | rfl
def Q1 (Z : State) (u0 : Int32) (a_STROKE : Addr) (a_FILL_AND_STROKE : Addr) (a_FILL : Addr) (h0 : Heap) (n0 : Nat) (v : Option Value) (h : Heap) (L : List Loc) : Prop := v = some (.ref (pk u0 a_STROKE a_FILL_AND_STROKE a_FILL)) ∧ Fr n0 L ∧ h = h0
set_option maxRecDepth 65536 in
set_option maxHeartbeats 40000000 in
theorem rm1 (l : Launch) (Z : State) (a0 : Array Value) (hw : ∀ d ∈ tables_1, d.before a0 Z = true) (ws : List Jvm.Cond) (u0 : Int32) (a_STROKE : Addr) (a_FILL_AND_STROKE : Addr) (a_FILL : Addr) (h0 : Heap) (n0 : Nat) (Z0 : n0 ≤ h0.size) (O0 : Old Z n0 h0) (S_STROKE : Sta Z Z.heap "com/example/decorum/decorum/graphics/Paint$Style" "STROKE" "Lcom/example/decorum/decorum/graphics/Paint$Style;" (.ref a_STROKE)) (S_FILL_AND_STROKE : Sta Z Z.heap "com/example/decorum/decorum/graphics/Paint$Style" "FILL_AND_STROKE" "Lcom/example/decorum/decorum/graphics/Paint$Style;" (.ref a_FILL_AND_STROKE)) (S_FILL : Sta Z Z.heap "com/example/decorum/decorum/graphics/Paint$Style" "FILL" "Lcom/example/decorum/decorum/graphics/Paint$Style;" (.ref a_FILL)) :
    MetFree l (⟨"com/example/decorum/decorum/graphics/PaintSetPinLaw", "style", "(I)Lcom/example/decorum/decorum/graphics/Paint$Style;"⟩ : MethodName) (head1 (Jvm.Cond.code (⟨"com/example/decorum/decorum/graphics/PaintSetPinLaw", "style", "(I)Lcom/example/decorum/decorum/graphics/Paint$Style;"⟩ : MethodName) method_3_code 1 (some (.object "com/example/decorum/decorum/graphics/Paint$Style")) :: ws) ({ frames := 0, cells := 0, slots := 0, locals := 0 } : Room)) (fun a U => a = #[(.int u0)] ∧ Z.Warmed39 U.vm ∧ U.heap = h0) (fun _ _ _ _ _ => True) (fun _ U o U' => ∃ v L, o = .returned v ∧ Q1 Z u0 a_STROKE a_FILL_AND_STROKE a_FILL h0 n0 v U'.heap L ∧ FrameEnd U o U' L ({ frames := 0, cells := 0, slots := 0, locals := 0 } : Room).cells ({ frames := 0, cells := 0, slots := 0, locals := 0 } : Room).slots) := by
  refine MetFree.of_bodySF (plainFor_of_name pn_com_example_decorum_decorum_graphics_PaintSetPinLaw) hisR ?_
  intro p e s m args below meth c s₁ Bd hml0 hP hK
  obtain ⟨rfl, hZ, hh⟩ := hP
  have hx := Bd.exec
  have hby := Bd.bytes
  have hml : c.maxLocals = 1 := hml0
  have hown : s.vm.findClass "com/example/decorum/decorum/graphics/PaintSetPinLaw" = some m.cls := findClass_of_methodNamed Bd.named
  have hnm := (name_of_methodNamed Bd.named Bd.method).1
  have X0 : Stand p l e ({ frames := 0, cells := 0, slots := 0, locals := 0 } : Room) s m #[(.int u0)] below meth c s₁ [] 0 0 := Stand.of_body Bd
  have e0 : s₁.heap = h0 := by rw [← hh, Bd.state]; rfl
  have N0 := Fr.nil n0
  have pre0 : ∀ t, Steps p.tables e below (s₁.setTop (mkF m 0 #[.val (.int u0)] [])) t → Steps p.tables e below (s₁.setTop (entryFrame m #[(.int u0)] 1)) t := fun t k => castTop (ef_1 m u0) k
  by_cases hc2 : u0 = (1 : Int32)
  · obtain ⟨T1, X1, e1, st1⟩ := getS2 X0 hx hZ hown (host := "") (Or.inl (hw _ (List.mem_of_getElem? (i := 4) rfl))) Via.refl e0 (S_STROKE.ext O0.2) (g := (mkF m 5 #[.val (.int u0)] [])) rfl (hb hby d1_5)
    obtain ⟨fs, hr, hrun, hended, hW, hsame⟩ := X1.leave (v := some (.ref a_STROKE)) (fun h => by rw [Bd.returns] at h; cases h)
    refine ⟨_, _, pre0 _ ?_, hrun, hended, _, _, rfl, ?_, ⟨_, rfl⟩, hW, hsame.mono (by decide) (by decide)⟩
    · show Steps p.tables e below (s₁.setTop (mkF m 0 #[.val (.int u0)] [])) _
      refine XS.iloadN X0.here hx rfl (hb hby d1_0) rfl ?_
      show Steps p.tables e below (s₁.setTop (mkF m 1 #[.val (.int u0)] [(.int u0)])) _
      refine XS.iconst X0.here hx rfl (hb hby d1_1) ?_
      show Steps p.tables e below (s₁.setTop (mkF m 2 #[.val (.int u0)] [(.int (1 : Int32)), (.int u0)])) _
      refine XS.icmpNo X0.here hx rfl (hb hby d1_2) rfl (teq hc2).2 ?_
      show Steps p.tables e below (s₁.setTop (mkF m 5 #[.val (.int u0)] [])) _
      refine st1 _ ?_
      show Steps p.tables e below (T1.setTop (mkF m 8 #[.val (.int u0)] [(.ref a_STROKE)])) _
      jvm_step X1.here [X1.here.top, hx, (hb hby d1_8), X1.method', Bd.returns, Value.isRef, FieldType.isReference]
      first | (intro acts; rw [hr _ acts rfl rfl rfl]) | rw [hr _ _ rfl rfl rfl]
      exact Steps.refl _
    · show Q1 Z u0 a_STROKE a_FILL_AND_STROKE a_FILL h0 n0 _ T1.heap _
      rw [e1]
      exact ⟨(by simp [pk, hc2]), N0, rfl⟩
  · by_cases hc11 : u0 = (2 : Int32)
    · obtain ⟨T2, X2, e2, st2⟩ := getS2 X0 hx hZ hown (host := "") (Or.inl (hw _ (List.mem_of_getElem? (i := 181) rfl))) Via.refl e0 (S_FILL_AND_STROKE.ext O0.2) (g := (mkF m 14 #[.val (.int u0)] [])) rfl (hb hby d1_14)
      obtain ⟨fs, hr, hrun, hended, hW, hsame⟩ := X2.leave (v := some (.ref a_FILL_AND_STROKE)) (fun h => by rw [Bd.returns] at h; cases h)
      refine ⟨_, _, pre0 _ ?_, hrun, hended, _, _, rfl, ?_, ⟨_, rfl⟩, hW, hsame.mono (by decide) (by decide)⟩
      · show Steps p.tables e below (s₁.setTop (mkF m 0 #[.val (.int u0)] [])) _
        refine XS.iloadN X0.here hx rfl (hb hby d1_0) rfl ?_
        show Steps p.tables e below (s₁.setTop (mkF m 1 #[.val (.int u0)] [(.int u0)])) _
        refine XS.iconst X0.here hx rfl (hb hby d1_1) ?_
        show Steps p.tables e below (s₁.setTop (mkF m 2 #[.val (.int u0)] [(.int (1 : Int32)), (.int u0)])) _
        refine XS.icmpYes X0.here hx rfl (pc0 := 2) (pc' := 9) rfl (hb hby d1_2) rfl (feq hc2).2 (by decide) (by decide) ?_
        show Steps p.tables e below (s₁.setTop (mkF m 9 #[.val (.int u0)] [])) _
        refine XS.iloadN X0.here hx rfl (hb hby d1_9) rfl ?_
        show Steps p.tables e below (s₁.setTop (mkF m 10 #[.val (.int u0)] [(.int u0)])) _
        refine XS.iconst X0.here hx rfl (hb hby d1_10) ?_
        show Steps p.tables e below (s₁.setTop (mkF m 11 #[.val (.int u0)] [(.int (2 : Int32)), (.int u0)])) _
        refine XS.icmpNo X0.here hx rfl (hb hby d1_11) rfl (teq hc11).2 ?_
        show Steps p.tables e below (s₁.setTop (mkF m 14 #[.val (.int u0)] [])) _
        refine st2 _ ?_
        show Steps p.tables e below (T2.setTop (mkF m 17 #[.val (.int u0)] [(.ref a_FILL_AND_STROKE)])) _
        jvm_step X2.here [X2.here.top, hx, (hb hby d1_17), X2.method', Bd.returns, Value.isRef, FieldType.isReference]
        first | (intro acts; rw [hr _ acts rfl rfl rfl]) | rw [hr _ _ rfl rfl rfl]
        exact Steps.refl _
      · show Q1 Z u0 a_STROKE a_FILL_AND_STROKE a_FILL h0 n0 _ T2.heap _
        rw [e2]
        exact ⟨(by simp [pk, hc2, hc11]), N0, rfl⟩
    · obtain ⟨T3, X3, e3, st3⟩ := getS2 X0 hx hZ hown (host := "") (Or.inl (hw _ (List.mem_of_getElem? (i := 172) rfl))) Via.refl e0 (S_FILL.ext O0.2) (g := (mkF m 18 #[.val (.int u0)] [])) rfl (hb hby d1_18)
      obtain ⟨fs, hr, hrun, hended, hW, hsame⟩ := X3.leave (v := some (.ref a_FILL)) (fun h => by rw [Bd.returns] at h; cases h)
      refine ⟨_, _, pre0 _ ?_, hrun, hended, _, _, rfl, ?_, ⟨_, rfl⟩, hW, hsame.mono (by decide) (by decide)⟩
      · show Steps p.tables e below (s₁.setTop (mkF m 0 #[.val (.int u0)] [])) _
        refine XS.iloadN X0.here hx rfl (hb hby d1_0) rfl ?_
        show Steps p.tables e below (s₁.setTop (mkF m 1 #[.val (.int u0)] [(.int u0)])) _
        refine XS.iconst X0.here hx rfl (hb hby d1_1) ?_
        show Steps p.tables e below (s₁.setTop (mkF m 2 #[.val (.int u0)] [(.int (1 : Int32)), (.int u0)])) _
        refine XS.icmpYes X0.here hx rfl (pc0 := 2) (pc' := 9) rfl (hb hby d1_2) rfl (feq hc2).2 (by decide) (by decide) ?_
        show Steps p.tables e below (s₁.setTop (mkF m 9 #[.val (.int u0)] [])) _
        refine XS.iloadN X0.here hx rfl (hb hby d1_9) rfl ?_
        show Steps p.tables e below (s₁.setTop (mkF m 10 #[.val (.int u0)] [(.int u0)])) _
        refine XS.iconst X0.here hx rfl (hb hby d1_10) ?_
        show Steps p.tables e below (s₁.setTop (mkF m 11 #[.val (.int u0)] [(.int (2 : Int32)), (.int u0)])) _
        refine XS.icmpYes X0.here hx rfl (pc0 := 11) (pc' := 18) rfl (hb hby d1_11) rfl (feq hc11).2 (by decide) (by decide) ?_
        show Steps p.tables e below (s₁.setTop (mkF m 18 #[.val (.int u0)] [])) _
        refine st3 _ ?_
        show Steps p.tables e below (T3.setTop (mkF m 21 #[.val (.int u0)] [(.ref a_FILL)])) _
        jvm_step X3.here [X3.here.top, hx, (hb hby d1_21), X3.method', Bd.returns, Value.isRef, FieldType.isReference]
        first | (intro acts; rw [hr _ acts rfl rfl rfl]) | rw [hr _ _ rfl rfl rfl]
        exact Steps.refl _
      · show Q1 Z u0 a_STROKE a_FILL_AND_STROKE a_FILL h0 n0 _ T3.heap _
        rw [e3]
        exact ⟨(by simp [pk, hc2, hc11]), N0, rfl⟩
theorem d2_0 : decode method_4_code 0 = .ok (.iload_n 0, 1) := by decide +kernel
theorem d2_1 : decode method_4_code 1 = .ok (.iconst 1, 1) := by decide +kernel
theorem d2_2 : decode method_4_code 2 = .ok (.if_icmp .ne 7, 3) := by decide +kernel
theorem d2_5 : decode method_4_code 5 = .ok (.getstatic 107, 3) := by decide +kernel
theorem d2_8 : decode method_4_code 8 = .ok (.areturn, 1) := by decide +kernel
theorem d2_9 : decode method_4_code 9 = .ok (.iload_n 0, 1) := by decide +kernel
theorem d2_10 : decode method_4_code 10 = .ok (.iconst 2, 1) := by decide +kernel
theorem d2_11 : decode method_4_code 11 = .ok (.if_icmp .ne 7, 3) := by decide +kernel
theorem d2_14 : decode method_4_code 14 = .ok (.getstatic 113, 3) := by decide +kernel
theorem d2_17 : decode method_4_code 17 = .ok (.areturn, 1) := by decide +kernel
theorem d2_18 : decode method_4_code 18 = .ok (.getstatic 116, 3) := by decide +kernel
theorem d2_21 : decode method_4_code 21 = .ok (.areturn, 1) := by decide +kernel
theorem ef_2 (m : MethodId) (u0 : Int32) : entryFrame m #[(.int u0)] 1 = mkF m 0 #[.val (.int u0)] [] := by first | (simp [entryFrame, mkF, argsToLocals, Value.category]; done) | rfl
def Q2 (Z : State) (u0 : Int32) (a_Cap_ROUND : Addr) (a_SQUARE : Addr) (a_BUTT : Addr) (h0 : Heap) (n0 : Nat) (v : Option Value) (h : Heap) (L : List Loc) : Prop := v = some (.ref (pk u0 a_Cap_ROUND a_SQUARE a_BUTT)) ∧ Fr n0 L ∧ h = h0
set_option maxRecDepth 65536 in
set_option maxHeartbeats 40000000 in
theorem rm2 (l : Launch) (Z : State) (a0 : Array Value) (hw : ∀ d ∈ tables_1, d.before a0 Z = true) (ws : List Jvm.Cond) (u0 : Int32) (a_Cap_ROUND : Addr) (a_SQUARE : Addr) (a_BUTT : Addr) (h0 : Heap) (n0 : Nat) (Z0 : n0 ≤ h0.size) (O0 : Old Z n0 h0) (S_Cap_ROUND : Sta Z Z.heap "com/example/decorum/decorum/graphics/Paint$Cap" "ROUND" "Lcom/example/decorum/decorum/graphics/Paint$Cap;" (.ref a_Cap_ROUND)) (S_SQUARE : Sta Z Z.heap "com/example/decorum/decorum/graphics/Paint$Cap" "SQUARE" "Lcom/example/decorum/decorum/graphics/Paint$Cap;" (.ref a_SQUARE)) (S_BUTT : Sta Z Z.heap "com/example/decorum/decorum/graphics/Paint$Cap" "BUTT" "Lcom/example/decorum/decorum/graphics/Paint$Cap;" (.ref a_BUTT)) :
    MetFree l (⟨"com/example/decorum/decorum/graphics/PaintSetPinLaw", "cap", "(I)Lcom/example/decorum/decorum/graphics/Paint$Cap;"⟩ : MethodName) (head1 (Jvm.Cond.code (⟨"com/example/decorum/decorum/graphics/PaintSetPinLaw", "cap", "(I)Lcom/example/decorum/decorum/graphics/Paint$Cap;"⟩ : MethodName) method_4_code 1 (some (.object "com/example/decorum/decorum/graphics/Paint$Cap")) :: ws) ({ frames := 0, cells := 0, slots := 0, locals := 0 } : Room)) (fun a U => a = #[(.int u0)] ∧ Z.Warmed39 U.vm ∧ U.heap = h0) (fun _ _ _ _ _ => True) (fun _ U o U' => ∃ v L, o = .returned v ∧ Q2 Z u0 a_Cap_ROUND a_SQUARE a_BUTT h0 n0 v U'.heap L ∧ FrameEnd U o U' L ({ frames := 0, cells := 0, slots := 0, locals := 0 } : Room).cells ({ frames := 0, cells := 0, slots := 0, locals := 0 } : Room).slots) := by
  refine MetFree.of_bodySF (plainFor_of_name pn_com_example_decorum_decorum_graphics_PaintSetPinLaw) hisR ?_
  intro p e s m args below meth c s₁ Bd hml0 hP hK
  obtain ⟨rfl, hZ, hh⟩ := hP
  have hx := Bd.exec
  have hby := Bd.bytes
  have hml : c.maxLocals = 1 := hml0
  have hown : s.vm.findClass "com/example/decorum/decorum/graphics/PaintSetPinLaw" = some m.cls := findClass_of_methodNamed Bd.named
  have hnm := (name_of_methodNamed Bd.named Bd.method).1
  have X0 : Stand p l e ({ frames := 0, cells := 0, slots := 0, locals := 0 } : Room) s m #[(.int u0)] below meth c s₁ [] 0 0 := Stand.of_body Bd
  have e0 : s₁.heap = h0 := by rw [← hh, Bd.state]; rfl
  have N0 := Fr.nil n0
  have pre0 : ∀ t, Steps p.tables e below (s₁.setTop (mkF m 0 #[.val (.int u0)] [])) t → Steps p.tables e below (s₁.setTop (entryFrame m #[(.int u0)] 1)) t := fun t k => castTop (ef_2 m u0) k
  by_cases hc2 : u0 = (1 : Int32)
  · obtain ⟨T1, X1, e1, st1⟩ := getS2 X0 hx hZ hown (host := "") (Or.inl (hw _ (List.mem_of_getElem? (i := 173) rfl))) Via.refl e0 (S_Cap_ROUND.ext O0.2) (g := (mkF m 5 #[.val (.int u0)] [])) rfl (hb hby d2_5)
    obtain ⟨fs, hr, hrun, hended, hW, hsame⟩ := X1.leave (v := some (.ref a_Cap_ROUND)) (fun h => by rw [Bd.returns] at h; cases h)
    refine ⟨_, _, pre0 _ ?_, hrun, hended, _, _, rfl, ?_, ⟨_, rfl⟩, hW, hsame.mono (by decide) (by decide)⟩
    · show Steps p.tables e below (s₁.setTop (mkF m 0 #[.val (.int u0)] [])) _
      refine XS.iloadN X0.here hx rfl (hb hby d2_0) rfl ?_
      show Steps p.tables e below (s₁.setTop (mkF m 1 #[.val (.int u0)] [(.int u0)])) _
      refine XS.iconst X0.here hx rfl (hb hby d2_1) ?_
      show Steps p.tables e below (s₁.setTop (mkF m 2 #[.val (.int u0)] [(.int (1 : Int32)), (.int u0)])) _
      refine XS.icmpNo X0.here hx rfl (hb hby d2_2) rfl (teq hc2).2 ?_
      show Steps p.tables e below (s₁.setTop (mkF m 5 #[.val (.int u0)] [])) _
      refine st1 _ ?_
      show Steps p.tables e below (T1.setTop (mkF m 8 #[.val (.int u0)] [(.ref a_Cap_ROUND)])) _
      jvm_step X1.here [X1.here.top, hx, (hb hby d2_8), X1.method', Bd.returns, Value.isRef, FieldType.isReference]
      first | (intro acts; rw [hr _ acts rfl rfl rfl]) | rw [hr _ _ rfl rfl rfl]
      exact Steps.refl _
    · show Q2 Z u0 a_Cap_ROUND a_SQUARE a_BUTT h0 n0 _ T1.heap _
      rw [e1]
      exact ⟨(by simp [pk, hc2]), N0, rfl⟩
  · by_cases hc11 : u0 = (2 : Int32)
    · obtain ⟨T2, X2, e2, st2⟩ := getS2 X0 hx hZ hown (host := "") (Or.inl (hw _ (List.mem_of_getElem? (i := 177) rfl))) Via.refl e0 (S_SQUARE.ext O0.2) (g := (mkF m 14 #[.val (.int u0)] [])) rfl (hb hby d2_14)
      obtain ⟨fs, hr, hrun, hended, hW, hsame⟩ := X2.leave (v := some (.ref a_SQUARE)) (fun h => by rw [Bd.returns] at h; cases h)
      refine ⟨_, _, pre0 _ ?_, hrun, hended, _, _, rfl, ?_, ⟨_, rfl⟩, hW, hsame.mono (by decide) (by decide)⟩
      · show Steps p.tables e below (s₁.setTop (mkF m 0 #[.val (.int u0)] [])) _
        refine XS.iloadN X0.here hx rfl (hb hby d2_0) rfl ?_
        show Steps p.tables e below (s₁.setTop (mkF m 1 #[.val (.int u0)] [(.int u0)])) _
        refine XS.iconst X0.here hx rfl (hb hby d2_1) ?_
        show Steps p.tables e below (s₁.setTop (mkF m 2 #[.val (.int u0)] [(.int (1 : Int32)), (.int u0)])) _
        refine XS.icmpYes X0.here hx rfl (pc0 := 2) (pc' := 9) rfl (hb hby d2_2) rfl (feq hc2).2 (by decide) (by decide) ?_
        show Steps p.tables e below (s₁.setTop (mkF m 9 #[.val (.int u0)] [])) _
        refine XS.iloadN X0.here hx rfl (hb hby d2_9) rfl ?_
        show Steps p.tables e below (s₁.setTop (mkF m 10 #[.val (.int u0)] [(.int u0)])) _
        refine XS.iconst X0.here hx rfl (hb hby d2_10) ?_
        show Steps p.tables e below (s₁.setTop (mkF m 11 #[.val (.int u0)] [(.int (2 : Int32)), (.int u0)])) _
        refine XS.icmpNo X0.here hx rfl (hb hby d2_11) rfl (teq hc11).2 ?_
        show Steps p.tables e below (s₁.setTop (mkF m 14 #[.val (.int u0)] [])) _
        refine st2 _ ?_
        show Steps p.tables e below (T2.setTop (mkF m 17 #[.val (.int u0)] [(.ref a_SQUARE)])) _
        jvm_step X2.here [X2.here.top, hx, (hb hby d2_17), X2.method', Bd.returns, Value.isRef, FieldType.isReference]
        first | (intro acts; rw [hr _ acts rfl rfl rfl]) | rw [hr _ _ rfl rfl rfl]
        exact Steps.refl _
      · show Q2 Z u0 a_Cap_ROUND a_SQUARE a_BUTT h0 n0 _ T2.heap _
        rw [e2]
        exact ⟨(by simp [pk, hc2, hc11]), N0, rfl⟩
    · obtain ⟨T3, X3, e3, st3⟩ := getS2 X0 hx hZ hown (host := "") (Or.inl (hw _ (List.mem_of_getElem? (i := 10) rfl))) Via.refl e0 (S_BUTT.ext O0.2) (g := (mkF m 18 #[.val (.int u0)] [])) rfl (hb hby d2_18)
      obtain ⟨fs, hr, hrun, hended, hW, hsame⟩ := X3.leave (v := some (.ref a_BUTT)) (fun h => by rw [Bd.returns] at h; cases h)
      refine ⟨_, _, pre0 _ ?_, hrun, hended, _, _, rfl, ?_, ⟨_, rfl⟩, hW, hsame.mono (by decide) (by decide)⟩
      · show Steps p.tables e below (s₁.setTop (mkF m 0 #[.val (.int u0)] [])) _
        refine XS.iloadN X0.here hx rfl (hb hby d2_0) rfl ?_
        show Steps p.tables e below (s₁.setTop (mkF m 1 #[.val (.int u0)] [(.int u0)])) _
        refine XS.iconst X0.here hx rfl (hb hby d2_1) ?_
        show Steps p.tables e below (s₁.setTop (mkF m 2 #[.val (.int u0)] [(.int (1 : Int32)), (.int u0)])) _
        refine XS.icmpYes X0.here hx rfl (pc0 := 2) (pc' := 9) rfl (hb hby d2_2) rfl (feq hc2).2 (by decide) (by decide) ?_
        show Steps p.tables e below (s₁.setTop (mkF m 9 #[.val (.int u0)] [])) _
        refine XS.iloadN X0.here hx rfl (hb hby d2_9) rfl ?_
        show Steps p.tables e below (s₁.setTop (mkF m 10 #[.val (.int u0)] [(.int u0)])) _
        refine XS.iconst X0.here hx rfl (hb hby d2_10) ?_
        show Steps p.tables e below (s₁.setTop (mkF m 11 #[.val (.int u0)] [(.int (2 : Int32)), (.int u0)])) _
        refine XS.icmpYes X0.here hx rfl (pc0 := 11) (pc' := 18) rfl (hb hby d2_11) rfl (feq hc11).2 (by decide) (by decide) ?_
        show Steps p.tables e below (s₁.setTop (mkF m 18 #[.val (.int u0)] [])) _
        refine st3 _ ?_
        show Steps p.tables e below (T3.setTop (mkF m 21 #[.val (.int u0)] [(.ref a_BUTT)])) _
        jvm_step X3.here [X3.here.top, hx, (hb hby d2_21), X3.method', Bd.returns, Value.isRef, FieldType.isReference]
        first | (intro acts; rw [hr _ acts rfl rfl rfl]) | rw [hr _ _ rfl rfl rfl]
        exact Steps.refl _
      · show Q2 Z u0 a_Cap_ROUND a_SQUARE a_BUTT h0 n0 _ T3.heap _
        rw [e3]
        exact ⟨(by simp [pk, hc2, hc11]), N0, rfl⟩
theorem d3_0 : decode method_5_code 0 = .ok (.iload_n 0, 1) := by decide +kernel
theorem d3_1 : decode method_5_code 1 = .ok (.iconst 1, 1) := by decide +kernel
theorem d3_2 : decode method_5_code 2 = .ok (.if_icmp .ne 7, 3) := by decide +kernel
theorem d3_5 : decode method_5_code 5 = .ok (.getstatic 119, 3) := by decide +kernel
theorem d3_8 : decode method_5_code 8 = .ok (.areturn, 1) := by decide +kernel
theorem d3_9 : decode method_5_code 9 = .ok (.iload_n 0, 1) := by decide +kernel
theorem d3_10 : decode method_5_code 10 = .ok (.iconst 2, 1) := by decide +kernel
theorem d3_11 : decode method_5_code 11 = .ok (.if_icmp .ne 7, 3) := by decide +kernel
theorem d3_14 : decode method_5_code 14 = .ok (.getstatic 124, 3) := by decide +kernel
theorem d3_17 : decode method_5_code 17 = .ok (.areturn, 1) := by decide +kernel
theorem d3_18 : decode method_5_code 18 = .ok (.getstatic 127, 3) := by decide +kernel
theorem d3_21 : decode method_5_code 21 = .ok (.areturn, 1) := by decide +kernel
theorem ef_3 (m : MethodId) (u0 : Int32) : entryFrame m #[(.int u0)] 1 = mkF m 0 #[.val (.int u0)] [] := by first | (simp [entryFrame, mkF, argsToLocals, Value.category]; done) | rfl
def Q3 (Z : State) (u0 : Int32) (a_Join_ROUND : Addr) (a_BEVEL : Addr) (a_MITER : Addr) (h0 : Heap) (n0 : Nat) (v : Option Value) (h : Heap) (L : List Loc) : Prop := v = some (.ref (pk u0 a_Join_ROUND a_BEVEL a_MITER)) ∧ Fr n0 L ∧ h = h0
set_option maxRecDepth 65536 in
set_option maxHeartbeats 40000000 in
theorem rm3 (l : Launch) (Z : State) (a0 : Array Value) (hw : ∀ d ∈ tables_1, d.before a0 Z = true) (ws : List Jvm.Cond) (u0 : Int32) (a_Join_ROUND : Addr) (a_BEVEL : Addr) (a_MITER : Addr) (h0 : Heap) (n0 : Nat) (Z0 : n0 ≤ h0.size) (O0 : Old Z n0 h0) (S_Join_ROUND : Sta Z Z.heap "com/example/decorum/decorum/graphics/Paint$Join" "ROUND" "Lcom/example/decorum/decorum/graphics/Paint$Join;" (.ref a_Join_ROUND)) (S_BEVEL : Sta Z Z.heap "com/example/decorum/decorum/graphics/Paint$Join" "BEVEL" "Lcom/example/decorum/decorum/graphics/Paint$Join;" (.ref a_BEVEL)) (S_MITER : Sta Z Z.heap "com/example/decorum/decorum/graphics/Paint$Join" "MITER" "Lcom/example/decorum/decorum/graphics/Paint$Join;" (.ref a_MITER)) :
    MetFree l (⟨"com/example/decorum/decorum/graphics/PaintSetPinLaw", "join", "(I)Lcom/example/decorum/decorum/graphics/Paint$Join;"⟩ : MethodName) (head1 (Jvm.Cond.code (⟨"com/example/decorum/decorum/graphics/PaintSetPinLaw", "join", "(I)Lcom/example/decorum/decorum/graphics/Paint$Join;"⟩ : MethodName) method_5_code 1 (some (.object "com/example/decorum/decorum/graphics/Paint$Join")) :: ws) ({ frames := 0, cells := 0, slots := 0, locals := 0 } : Room)) (fun a U => a = #[(.int u0)] ∧ Z.Warmed39 U.vm ∧ U.heap = h0) (fun _ _ _ _ _ => True) (fun _ U o U' => ∃ v L, o = .returned v ∧ Q3 Z u0 a_Join_ROUND a_BEVEL a_MITER h0 n0 v U'.heap L ∧ FrameEnd U o U' L ({ frames := 0, cells := 0, slots := 0, locals := 0 } : Room).cells ({ frames := 0, cells := 0, slots := 0, locals := 0 } : Room).slots) := by
  refine MetFree.of_bodySF (plainFor_of_name pn_com_example_decorum_decorum_graphics_PaintSetPinLaw) hisR ?_
  intro p e s m args below meth c s₁ Bd hml0 hP hK
  obtain ⟨rfl, hZ, hh⟩ := hP
  have hx := Bd.exec
  have hby := Bd.bytes
  have hml : c.maxLocals = 1 := hml0
  have hown : s.vm.findClass "com/example/decorum/decorum/graphics/PaintSetPinLaw" = some m.cls := findClass_of_methodNamed Bd.named
  have hnm := (name_of_methodNamed Bd.named Bd.method).1
  have X0 : Stand p l e ({ frames := 0, cells := 0, slots := 0, locals := 0 } : Room) s m #[(.int u0)] below meth c s₁ [] 0 0 := Stand.of_body Bd
  have e0 : s₁.heap = h0 := by rw [← hh, Bd.state]; rfl
  have N0 := Fr.nil n0
  have pre0 : ∀ t, Steps p.tables e below (s₁.setTop (mkF m 0 #[.val (.int u0)] [])) t → Steps p.tables e below (s₁.setTop (entryFrame m #[(.int u0)] 1)) t := fun t k => castTop (ef_3 m u0) k
  by_cases hc2 : u0 = (1 : Int32)
  · obtain ⟨T1, X1, e1, st1⟩ := getS2 X0 hx hZ hown (host := "") (Or.inl (hw _ (List.mem_of_getElem? (i := 183) rfl))) Via.refl e0 (S_Join_ROUND.ext O0.2) (g := (mkF m 5 #[.val (.int u0)] [])) rfl (hb hby d3_5)
    obtain ⟨fs, hr, hrun, hended, hW, hsame⟩ := X1.leave (v := some (.ref a_Join_ROUND)) (fun h => by rw [Bd.returns] at h; cases h)
    refine ⟨_, _, pre0 _ ?_, hrun, hended, _, _, rfl, ?_, ⟨_, rfl⟩, hW, hsame.mono (by decide) (by decide)⟩
    · show Steps p.tables e below (s₁.setTop (mkF m 0 #[.val (.int u0)] [])) _
      refine XS.iloadN X0.here hx rfl (hb hby d3_0) rfl ?_
      show Steps p.tables e below (s₁.setTop (mkF m 1 #[.val (.int u0)] [(.int u0)])) _
      refine XS.iconst X0.here hx rfl (hb hby d3_1) ?_
      show Steps p.tables e below (s₁.setTop (mkF m 2 #[.val (.int u0)] [(.int (1 : Int32)), (.int u0)])) _
      refine XS.icmpNo X0.here hx rfl (hb hby d3_2) rfl (teq hc2).2 ?_
      show Steps p.tables e below (s₁.setTop (mkF m 5 #[.val (.int u0)] [])) _
      refine st1 _ ?_
      show Steps p.tables e below (T1.setTop (mkF m 8 #[.val (.int u0)] [(.ref a_Join_ROUND)])) _
      jvm_step X1.here [X1.here.top, hx, (hb hby d3_8), X1.method', Bd.returns, Value.isRef, FieldType.isReference]
      first | (intro acts; rw [hr _ acts rfl rfl rfl]) | rw [hr _ _ rfl rfl rfl]
      exact Steps.refl _
    · show Q3 Z u0 a_Join_ROUND a_BEVEL a_MITER h0 n0 _ T1.heap _
      rw [e1]
      exact ⟨(by simp [pk, hc2]), N0, rfl⟩
  · by_cases hc11 : u0 = (2 : Int32)
    · obtain ⟨T2, X2, e2, st2⟩ := getS2 X0 hx hZ hown (host := "") (Or.inl (hw _ (List.mem_of_getElem? (i := 175) rfl))) Via.refl e0 (S_BEVEL.ext O0.2) (g := (mkF m 14 #[.val (.int u0)] [])) rfl (hb hby d3_14)
      obtain ⟨fs, hr, hrun, hended, hW, hsame⟩ := X2.leave (v := some (.ref a_BEVEL)) (fun h => by rw [Bd.returns] at h; cases h)
      refine ⟨_, _, pre0 _ ?_, hrun, hended, _, _, rfl, ?_, ⟨_, rfl⟩, hW, hsame.mono (by decide) (by decide)⟩
      · show Steps p.tables e below (s₁.setTop (mkF m 0 #[.val (.int u0)] [])) _
        refine XS.iloadN X0.here hx rfl (hb hby d3_0) rfl ?_
        show Steps p.tables e below (s₁.setTop (mkF m 1 #[.val (.int u0)] [(.int u0)])) _
        refine XS.iconst X0.here hx rfl (hb hby d3_1) ?_
        show Steps p.tables e below (s₁.setTop (mkF m 2 #[.val (.int u0)] [(.int (1 : Int32)), (.int u0)])) _
        refine XS.icmpYes X0.here hx rfl (pc0 := 2) (pc' := 9) rfl (hb hby d3_2) rfl (feq hc2).2 (by decide) (by decide) ?_
        show Steps p.tables e below (s₁.setTop (mkF m 9 #[.val (.int u0)] [])) _
        refine XS.iloadN X0.here hx rfl (hb hby d3_9) rfl ?_
        show Steps p.tables e below (s₁.setTop (mkF m 10 #[.val (.int u0)] [(.int u0)])) _
        refine XS.iconst X0.here hx rfl (hb hby d3_10) ?_
        show Steps p.tables e below (s₁.setTop (mkF m 11 #[.val (.int u0)] [(.int (2 : Int32)), (.int u0)])) _
        refine XS.icmpNo X0.here hx rfl (hb hby d3_11) rfl (teq hc11).2 ?_
        show Steps p.tables e below (s₁.setTop (mkF m 14 #[.val (.int u0)] [])) _
        refine st2 _ ?_
        show Steps p.tables e below (T2.setTop (mkF m 17 #[.val (.int u0)] [(.ref a_BEVEL)])) _
        jvm_step X2.here [X2.here.top, hx, (hb hby d3_17), X2.method', Bd.returns, Value.isRef, FieldType.isReference]
        first | (intro acts; rw [hr _ acts rfl rfl rfl]) | rw [hr _ _ rfl rfl rfl]
        exact Steps.refl _
      · show Q3 Z u0 a_Join_ROUND a_BEVEL a_MITER h0 n0 _ T2.heap _
        rw [e2]
        exact ⟨(by simp [pk, hc2, hc11]), N0, rfl⟩
    · obtain ⟨T3, X3, e3, st3⟩ := getS2 X0 hx hZ hown (host := "") (Or.inl (hw _ (List.mem_of_getElem? (i := 16) rfl))) Via.refl e0 (S_MITER.ext O0.2) (g := (mkF m 18 #[.val (.int u0)] [])) rfl (hb hby d3_18)
      obtain ⟨fs, hr, hrun, hended, hW, hsame⟩ := X3.leave (v := some (.ref a_MITER)) (fun h => by rw [Bd.returns] at h; cases h)
      refine ⟨_, _, pre0 _ ?_, hrun, hended, _, _, rfl, ?_, ⟨_, rfl⟩, hW, hsame.mono (by decide) (by decide)⟩
      · show Steps p.tables e below (s₁.setTop (mkF m 0 #[.val (.int u0)] [])) _
        refine XS.iloadN X0.here hx rfl (hb hby d3_0) rfl ?_
        show Steps p.tables e below (s₁.setTop (mkF m 1 #[.val (.int u0)] [(.int u0)])) _
        refine XS.iconst X0.here hx rfl (hb hby d3_1) ?_
        show Steps p.tables e below (s₁.setTop (mkF m 2 #[.val (.int u0)] [(.int (1 : Int32)), (.int u0)])) _
        refine XS.icmpYes X0.here hx rfl (pc0 := 2) (pc' := 9) rfl (hb hby d3_2) rfl (feq hc2).2 (by decide) (by decide) ?_
        show Steps p.tables e below (s₁.setTop (mkF m 9 #[.val (.int u0)] [])) _
        refine XS.iloadN X0.here hx rfl (hb hby d3_9) rfl ?_
        show Steps p.tables e below (s₁.setTop (mkF m 10 #[.val (.int u0)] [(.int u0)])) _
        refine XS.iconst X0.here hx rfl (hb hby d3_10) ?_
        show Steps p.tables e below (s₁.setTop (mkF m 11 #[.val (.int u0)] [(.int (2 : Int32)), (.int u0)])) _
        refine XS.icmpYes X0.here hx rfl (pc0 := 11) (pc' := 18) rfl (hb hby d3_11) rfl (feq hc11).2 (by decide) (by decide) ?_
        show Steps p.tables e below (s₁.setTop (mkF m 18 #[.val (.int u0)] [])) _
        refine st3 _ ?_
        show Steps p.tables e below (T3.setTop (mkF m 21 #[.val (.int u0)] [(.ref a_MITER)])) _
        jvm_step X3.here [X3.here.top, hx, (hb hby d3_21), X3.method', Bd.returns, Value.isRef, FieldType.isReference]
        first | (intro acts; rw [hr _ acts rfl rfl rfl]) | rw [hr _ _ rfl rfl rfl]
        exact Steps.refl _
      · show Q3 Z u0 a_Join_ROUND a_BEVEL a_MITER h0 n0 _ T3.heap _
        rw [e3]
        exact ⟨(by simp [pk, hc2, hc11]), N0, rfl⟩
theorem d4_0 : decode method_6_code 0 = .ok (.iload_n 0, 1) := by decide +kernel
theorem d4_1 : decode method_6_code 1 = .ok (.iconst 1, 1) := by decide +kernel
theorem d4_2 : decode method_6_code 2 = .ok (.if_icmp .ne 7, 3) := by decide +kernel
theorem d4_5 : decode method_6_code 5 = .ok (.getstatic 130, 3) := by decide +kernel
theorem d4_8 : decode method_6_code 8 = .ok (.areturn, 1) := by decide +kernel
theorem d4_9 : decode method_6_code 9 = .ok (.iload_n 0, 1) := by decide +kernel
theorem d4_10 : decode method_6_code 10 = .ok (.iconst 2, 1) := by decide +kernel
theorem d4_11 : decode method_6_code 11 = .ok (.if_icmp .ne 7, 3) := by decide +kernel
theorem d4_14 : decode method_6_code 14 = .ok (.getstatic 136, 3) := by decide +kernel
theorem d4_17 : decode method_6_code 17 = .ok (.areturn, 1) := by decide +kernel
theorem d4_18 : decode method_6_code 18 = .ok (.getstatic 139, 3) := by decide +kernel
theorem d4_21 : decode method_6_code 21 = .ok (.areturn, 1) := by decide +kernel
theorem ef_4 (m : MethodId) (u0 : Int32) : entryFrame m #[(.int u0)] 1 = mkF m 0 #[.val (.int u0)] [] := by first | (simp [entryFrame, mkF, argsToLocals, Value.category]; done) | rfl
def Q4 (Z : State) (u0 : Int32) (a_CENTER : Addr) (a_RIGHT : Addr) (a_LEFT : Addr) (h0 : Heap) (n0 : Nat) (v : Option Value) (h : Heap) (L : List Loc) : Prop := v = some (.ref (pk u0 a_CENTER a_RIGHT a_LEFT)) ∧ Fr n0 L ∧ h = h0
set_option maxRecDepth 65536 in
set_option maxHeartbeats 40000000 in
theorem rm4 (l : Launch) (Z : State) (a0 : Array Value) (hw : ∀ d ∈ tables_1, d.before a0 Z = true) (ws : List Jvm.Cond) (u0 : Int32) (a_CENTER : Addr) (a_RIGHT : Addr) (a_LEFT : Addr) (h0 : Heap) (n0 : Nat) (Z0 : n0 ≤ h0.size) (O0 : Old Z n0 h0) (S_CENTER : Sta Z Z.heap "com/example/decorum/decorum/graphics/Paint$Align" "CENTER" "Lcom/example/decorum/decorum/graphics/Paint$Align;" (.ref a_CENTER)) (S_RIGHT : Sta Z Z.heap "com/example/decorum/decorum/graphics/Paint$Align" "RIGHT" "Lcom/example/decorum/decorum/graphics/Paint$Align;" (.ref a_RIGHT)) (S_LEFT : Sta Z Z.heap "com/example/decorum/decorum/graphics/Paint$Align" "LEFT" "Lcom/example/decorum/decorum/graphics/Paint$Align;" (.ref a_LEFT)) :
    MetFree l (⟨"com/example/decorum/decorum/graphics/PaintSetPinLaw", "align", "(I)Lcom/example/decorum/decorum/graphics/Paint$Align;"⟩ : MethodName) (head1 (Jvm.Cond.code (⟨"com/example/decorum/decorum/graphics/PaintSetPinLaw", "align", "(I)Lcom/example/decorum/decorum/graphics/Paint$Align;"⟩ : MethodName) method_6_code 1 (some (.object "com/example/decorum/decorum/graphics/Paint$Align")) :: ws) ({ frames := 0, cells := 0, slots := 0, locals := 0 } : Room)) (fun a U => a = #[(.int u0)] ∧ Z.Warmed39 U.vm ∧ U.heap = h0) (fun _ _ _ _ _ => True) (fun _ U o U' => ∃ v L, o = .returned v ∧ Q4 Z u0 a_CENTER a_RIGHT a_LEFT h0 n0 v U'.heap L ∧ FrameEnd U o U' L ({ frames := 0, cells := 0, slots := 0, locals := 0 } : Room).cells ({ frames := 0, cells := 0, slots := 0, locals := 0 } : Room).slots) := by
  refine MetFree.of_bodySF (plainFor_of_name pn_com_example_decorum_decorum_graphics_PaintSetPinLaw) hisR ?_
  intro p e s m args below meth c s₁ Bd hml0 hP hK
  obtain ⟨rfl, hZ, hh⟩ := hP
  have hx := Bd.exec
  have hby := Bd.bytes
  have hml : c.maxLocals = 1 := hml0
  have hown : s.vm.findClass "com/example/decorum/decorum/graphics/PaintSetPinLaw" = some m.cls := findClass_of_methodNamed Bd.named
  have hnm := (name_of_methodNamed Bd.named Bd.method).1
  have X0 : Stand p l e ({ frames := 0, cells := 0, slots := 0, locals := 0 } : Room) s m #[(.int u0)] below meth c s₁ [] 0 0 := Stand.of_body Bd
  have e0 : s₁.heap = h0 := by rw [← hh, Bd.state]; rfl
  have N0 := Fr.nil n0
  have pre0 : ∀ t, Steps p.tables e below (s₁.setTop (mkF m 0 #[.val (.int u0)] [])) t → Steps p.tables e below (s₁.setTop (entryFrame m #[(.int u0)] 1)) t := fun t k => castTop (ef_4 m u0) k
  by_cases hc2 : u0 = (1 : Int32)
  · obtain ⟨T1, X1, e1, st1⟩ := getS2 X0 hx hZ hown (host := "") (Or.inl (hw _ (List.mem_of_getElem? (i := 179) rfl))) Via.refl e0 (S_CENTER.ext O0.2) (g := (mkF m 5 #[.val (.int u0)] [])) rfl (hb hby d4_5)
    obtain ⟨fs, hr, hrun, hended, hW, hsame⟩ := X1.leave (v := some (.ref a_CENTER)) (fun h => by rw [Bd.returns] at h; cases h)
    refine ⟨_, _, pre0 _ ?_, hrun, hended, _, _, rfl, ?_, ⟨_, rfl⟩, hW, hsame.mono (by decide) (by decide)⟩
    · show Steps p.tables e below (s₁.setTop (mkF m 0 #[.val (.int u0)] [])) _
      refine XS.iloadN X0.here hx rfl (hb hby d4_0) rfl ?_
      show Steps p.tables e below (s₁.setTop (mkF m 1 #[.val (.int u0)] [(.int u0)])) _
      refine XS.iconst X0.here hx rfl (hb hby d4_1) ?_
      show Steps p.tables e below (s₁.setTop (mkF m 2 #[.val (.int u0)] [(.int (1 : Int32)), (.int u0)])) _
      refine XS.icmpNo X0.here hx rfl (hb hby d4_2) rfl (teq hc2).2 ?_
      show Steps p.tables e below (s₁.setTop (mkF m 5 #[.val (.int u0)] [])) _
      refine st1 _ ?_
      show Steps p.tables e below (T1.setTop (mkF m 8 #[.val (.int u0)] [(.ref a_CENTER)])) _
      jvm_step X1.here [X1.here.top, hx, (hb hby d4_8), X1.method', Bd.returns, Value.isRef, FieldType.isReference]
      first | (intro acts; rw [hr _ acts rfl rfl rfl]) | rw [hr _ _ rfl rfl rfl]
      exact Steps.refl _
    · show Q4 Z u0 a_CENTER a_RIGHT a_LEFT h0 n0 _ T1.heap _
      rw [e1]
      exact ⟨(by simp [pk, hc2]), N0, rfl⟩
  · by_cases hc11 : u0 = (2 : Int32)
    · obtain ⟨T2, X2, e2, st2⟩ := getS2 X0 hx hZ hown (host := "") (Or.inl (hw _ (List.mem_of_getElem? (i := 185) rfl))) Via.refl e0 (S_RIGHT.ext O0.2) (g := (mkF m 14 #[.val (.int u0)] [])) rfl (hb hby d4_14)
      obtain ⟨fs, hr, hrun, hended, hW, hsame⟩ := X2.leave (v := some (.ref a_RIGHT)) (fun h => by rw [Bd.returns] at h; cases h)
      refine ⟨_, _, pre0 _ ?_, hrun, hended, _, _, rfl, ?_, ⟨_, rfl⟩, hW, hsame.mono (by decide) (by decide)⟩
      · show Steps p.tables e below (s₁.setTop (mkF m 0 #[.val (.int u0)] [])) _
        refine XS.iloadN X0.here hx rfl (hb hby d4_0) rfl ?_
        show Steps p.tables e below (s₁.setTop (mkF m 1 #[.val (.int u0)] [(.int u0)])) _
        refine XS.iconst X0.here hx rfl (hb hby d4_1) ?_
        show Steps p.tables e below (s₁.setTop (mkF m 2 #[.val (.int u0)] [(.int (1 : Int32)), (.int u0)])) _
        refine XS.icmpYes X0.here hx rfl (pc0 := 2) (pc' := 9) rfl (hb hby d4_2) rfl (feq hc2).2 (by decide) (by decide) ?_
        show Steps p.tables e below (s₁.setTop (mkF m 9 #[.val (.int u0)] [])) _
        refine XS.iloadN X0.here hx rfl (hb hby d4_9) rfl ?_
        show Steps p.tables e below (s₁.setTop (mkF m 10 #[.val (.int u0)] [(.int u0)])) _
        refine XS.iconst X0.here hx rfl (hb hby d4_10) ?_
        show Steps p.tables e below (s₁.setTop (mkF m 11 #[.val (.int u0)] [(.int (2 : Int32)), (.int u0)])) _
        refine XS.icmpNo X0.here hx rfl (hb hby d4_11) rfl (teq hc11).2 ?_
        show Steps p.tables e below (s₁.setTop (mkF m 14 #[.val (.int u0)] [])) _
        refine st2 _ ?_
        show Steps p.tables e below (T2.setTop (mkF m 17 #[.val (.int u0)] [(.ref a_RIGHT)])) _
        jvm_step X2.here [X2.here.top, hx, (hb hby d4_17), X2.method', Bd.returns, Value.isRef, FieldType.isReference]
        first | (intro acts; rw [hr _ acts rfl rfl rfl]) | rw [hr _ _ rfl rfl rfl]
        exact Steps.refl _
      · show Q4 Z u0 a_CENTER a_RIGHT a_LEFT h0 n0 _ T2.heap _
        rw [e2]
        exact ⟨(by simp [pk, hc2, hc11]), N0, rfl⟩
    · obtain ⟨T3, X3, e3, st3⟩ := getS2 X0 hx hZ hown (host := "") (Or.inl (hw _ (List.mem_of_getElem? (i := 22) rfl))) Via.refl e0 (S_LEFT.ext O0.2) (g := (mkF m 18 #[.val (.int u0)] [])) rfl (hb hby d4_18)
      obtain ⟨fs, hr, hrun, hended, hW, hsame⟩ := X3.leave (v := some (.ref a_LEFT)) (fun h => by rw [Bd.returns] at h; cases h)
      refine ⟨_, _, pre0 _ ?_, hrun, hended, _, _, rfl, ?_, ⟨_, rfl⟩, hW, hsame.mono (by decide) (by decide)⟩
      · show Steps p.tables e below (s₁.setTop (mkF m 0 #[.val (.int u0)] [])) _
        refine XS.iloadN X0.here hx rfl (hb hby d4_0) rfl ?_
        show Steps p.tables e below (s₁.setTop (mkF m 1 #[.val (.int u0)] [(.int u0)])) _
        refine XS.iconst X0.here hx rfl (hb hby d4_1) ?_
        show Steps p.tables e below (s₁.setTop (mkF m 2 #[.val (.int u0)] [(.int (1 : Int32)), (.int u0)])) _
        refine XS.icmpYes X0.here hx rfl (pc0 := 2) (pc' := 9) rfl (hb hby d4_2) rfl (feq hc2).2 (by decide) (by decide) ?_
        show Steps p.tables e below (s₁.setTop (mkF m 9 #[.val (.int u0)] [])) _
        refine XS.iloadN X0.here hx rfl (hb hby d4_9) rfl ?_
        show Steps p.tables e below (s₁.setTop (mkF m 10 #[.val (.int u0)] [(.int u0)])) _
        refine XS.iconst X0.here hx rfl (hb hby d4_10) ?_
        show Steps p.tables e below (s₁.setTop (mkF m 11 #[.val (.int u0)] [(.int (2 : Int32)), (.int u0)])) _
        refine XS.icmpYes X0.here hx rfl (pc0 := 11) (pc' := 18) rfl (hb hby d4_11) rfl (feq hc11).2 (by decide) (by decide) ?_
        show Steps p.tables e below (s₁.setTop (mkF m 18 #[.val (.int u0)] [])) _
        refine st3 _ ?_
        show Steps p.tables e below (T3.setTop (mkF m 21 #[.val (.int u0)] [(.ref a_LEFT)])) _
        jvm_step X3.here [X3.here.top, hx, (hb hby d4_21), X3.method', Bd.returns, Value.isRef, FieldType.isReference]
        first | (intro acts; rw [hr _ acts rfl rfl rfl]) | rw [hr _ _ rfl rfl rfl]
        exact Steps.refl _
      · show Q4 Z u0 a_CENTER a_RIGHT a_LEFT h0 n0 _ T3.heap _
        rw [e3]
        exact ⟨(by simp [pk, hc2, hc11]), N0, rfl⟩
theorem d5_0 : decode prog_74_method_2_code 0 = .ok (.aload_n 0, 1) := by decide +kernel
theorem d5_1 : decode prog_74_method_2_code 1 = .ok (.invokespecial 7, 3) := by decide +kernel
theorem d5_4 : decode prog_74_method_2_code 4 = .ok (.aload_n 0, 1) := by decide +kernel
theorem d5_5 : decode prog_74_method_2_code 5 = .ok (.iload_n 1, 1) := by decide +kernel
theorem d5_6 : decode prog_74_method_2_code 6 = .ok (.putfield 12, 3) := by decide +kernel
theorem d5_9 : decode prog_74_method_2_code 9 = .ok (.aload_n 0, 1) := by decide +kernel
theorem d5_10 : decode prog_74_method_2_code 10 = .ok (.ldc 18, 2) := by decide +kernel
theorem d5_12 : decode prog_74_method_2_code 12 = .ok (.putfield 19, 3) := by decide +kernel
theorem d5_15 : decode prog_74_method_2_code 15 = .ok (.aload_n 0, 1) := by decide +kernel
theorem d5_16 : decode prog_74_method_2_code 16 = .ok (.getstatic 22, 3) := by decide +kernel
theorem d5_19 : decode prog_74_method_2_code 19 = .ok (.putfield 28, 3) := by decide +kernel
theorem d5_22 : decode prog_74_method_2_code 22 = .ok (.aload_n 0, 1) := by decide +kernel
theorem d5_23 : decode prog_74_method_2_code 23 = .ok (.getstatic 31, 3) := by decide +kernel
theorem d5_26 : decode prog_74_method_2_code 26 = .ok (.putfield 37, 3) := by decide +kernel
theorem d5_29 : decode prog_74_method_2_code 29 = .ok (.aload_n 0, 1) := by decide +kernel
theorem d5_30 : decode prog_74_method_2_code 30 = .ok (.getstatic 40, 3) := by decide +kernel
theorem d5_33 : decode prog_74_method_2_code 33 = .ok (.putfield 46, 3) := by decide +kernel
theorem d5_36 : decode prog_74_method_2_code 36 = .ok (.aload_n 0, 1) := by decide +kernel
theorem d5_37 : decode prog_74_method_2_code 37 = .ok (.getstatic 49, 3) := by decide +kernel
theorem d5_40 : decode prog_74_method_2_code 40 = .ok (.putfield 55, 3) := by decide +kernel
theorem d5_43 : decode prog_74_method_2_code 43 = .ok (.aload_n 0, 1) := by decide +kernel
theorem d5_44 : decode prog_74_method_2_code 44 = .ok (.ldc 58, 2) := by decide +kernel
theorem d5_46 : decode prog_74_method_2_code 46 = .ok (.putfield 59, 3) := by decide +kernel
theorem d5_49 : decode prog_74_method_2_code 49 = .ok (.aload_n 0, 1) := by decide +kernel
theorem d5_50 : decode prog_74_method_2_code 50 = .ok (.getstatic 63, 3) := by decide +kernel
theorem d5_53 : decode prog_74_method_2_code 53 = .ok (.putfield 69, 3) := by decide +kernel
theorem d5_56 : decode prog_74_method_2_code 56 = .ok (.return_, 1) := by decide +kernel
theorem pn_com_example_decorum_decorum_graphics_Paint : plainName "com/example/decorum/decorum/graphics/Paint" = true := by first | (simp [plainName, overriddenIn]; done) | decide +kernel
theorem ef_5 (m : MethodId) (u0 : Addr) (u1 : Int32) : entryFrame m #[(.ref u0), (.int u1)] 2 = mkF m 0 #[.val (.ref u0), .val (.int u1)] [] := by first | (simp [entryFrame, mkF, argsToLocals, Value.category]; done) | rfl
def Q5 (Z : State) (u0 : Addr) (u1 : Int32) (a_FILL : Addr) (a_BUTT : Addr) (a_MITER : Addr) (a_DEFAULT : Addr) (a_LEFT : Addr) (h0 : Heap) (n0 : Nat) (v : Option Value) (h : Heap) (L : List Loc) : Prop := v = none ∧ Fr n0 L ∧ Keep h0 h [u0] ∧ Exa Z h u0 "com/example/decorum/decorum/graphics/Paint" ∧ Fld Z h u0 "com/example/decorum/decorum/graphics/Paint" "flags" "I" (.int u1) ∧ Fld Z h u0 "com/example/decorum/decorum/graphics/Paint" "color" "I" (.int (-16777216 : Int32)) ∧ Fld Z h u0 "com/example/decorum/decorum/graphics/Paint" "style" "Lcom/example/decorum/decorum/graphics/Paint$Style;" (.ref a_FILL) ∧ Fld Z h u0 "com/example/decorum/decorum/graphics/Paint" "strokeWidth" "F" (.float (0 : UInt32)) ∧ Fld Z h u0 "com/example/decorum/decorum/graphics/Paint" "strokeCap" "Lcom/example/decorum/decorum/graphics/Paint$Cap;" (.ref a_BUTT) ∧ Fld Z h u0 "com/example/decorum/decorum/graphics/Paint" "strokeJoin" "Lcom/example/decorum/decorum/graphics/Paint$Join;" (.ref a_MITER) ∧ Fld Z h u0 "com/example/decorum/decorum/graphics/Paint" "typeface" "Lcom/example/decorum/decorum/graphics/Typeface;" (.ref a_DEFAULT) ∧ Fld Z h u0 "com/example/decorum/decorum/graphics/Paint" "textSize" "F" (.float (1094713344 : UInt32)) ∧ Fld Z h u0 "com/example/decorum/decorum/graphics/Paint" "textAlign" "Lcom/example/decorum/decorum/graphics/Paint$Align;" (.ref a_LEFT)
set_option maxRecDepth 65536 in
set_option maxHeartbeats 40000000 in
theorem rm5 (l : Launch) (Z : State) (a0 : Array Value) (hw : ∀ d ∈ tables_1, d.before a0 Z = true) (ws : List Jvm.Cond) (u0 : Addr) (u1 : Int32) (a_FILL : Addr) (a_BUTT : Addr) (a_MITER : Addr) (a_DEFAULT : Addr) (a_LEFT : Addr) (h0 : Heap) (n0 : Nat) (Z0 : n0 ≤ h0.size) (O0 : Old Z n0 h0) (g_u0 : n0 ≤ u0) (E_u0 : Exa Z h0 u0 "com/example/decorum/decorum/graphics/Paint") (F_flags_u0 : Fld Z h0 u0 "com/example/decorum/decorum/graphics/Paint" "flags" "I" (.int (0 : Int32))) (F_color_u0 : Fld Z h0 u0 "com/example/decorum/decorum/graphics/Paint" "color" "I" (.int (0 : Int32))) (F_style_u0 : Fld Z h0 u0 "com/example/decorum/decorum/graphics/Paint" "style" "Lcom/example/decorum/decorum/graphics/Paint$Style;" .null) (F_strokeWidth_u0 : Fld Z h0 u0 "com/example/decorum/decorum/graphics/Paint" "strokeWidth" "F" (.float (0 : UInt32))) (F_strokeCap_u0 : Fld Z h0 u0 "com/example/decorum/decorum/graphics/Paint" "strokeCap" "Lcom/example/decorum/decorum/graphics/Paint$Cap;" .null) (F_strokeJoin_u0 : Fld Z h0 u0 "com/example/decorum/decorum/graphics/Paint" "strokeJoin" "Lcom/example/decorum/decorum/graphics/Paint$Join;" .null) (F_typeface_u0 : Fld Z h0 u0 "com/example/decorum/decorum/graphics/Paint" "typeface" "Lcom/example/decorum/decorum/graphics/Typeface;" .null) (F_textSize_u0 : Fld Z h0 u0 "com/example/decorum/decorum/graphics/Paint" "textSize" "F" (.float (0 : UInt32))) (F_textAlign_u0 : Fld Z h0 u0 "com/example/decorum/decorum/graphics/Paint" "textAlign" "Lcom/example/decorum/decorum/graphics/Paint$Align;" .null) (S_FILL : Sta Z Z.heap "com/example/decorum/decorum/graphics/Paint$Style" "FILL" "Lcom/example/decorum/decorum/graphics/Paint$Style;" (.ref a_FILL)) (S_BUTT : Sta Z Z.heap "com/example/decorum/decorum/graphics/Paint$Cap" "BUTT" "Lcom/example/decorum/decorum/graphics/Paint$Cap;" (.ref a_BUTT)) (S_MITER : Sta Z Z.heap "com/example/decorum/decorum/graphics/Paint$Join" "MITER" "Lcom/example/decorum/decorum/graphics/Paint$Join;" (.ref a_MITER)) (S_DEFAULT : Sta Z Z.heap "com/example/decorum/decorum/graphics/Typeface" "DEFAULT" "Lcom/example/decorum/decorum/graphics/Typeface;" (.ref a_DEFAULT)) (S_LEFT : Sta Z Z.heap "com/example/decorum/decorum/graphics/Paint$Align" "LEFT" "Lcom/example/decorum/decorum/graphics/Paint$Align;" (.ref a_LEFT)) :
    MetFree l (⟨"com/example/decorum/decorum/graphics/Paint", "<init>", "(I)V"⟩ : MethodName) (head1 (Jvm.Cond.code (⟨"com/example/decorum/decorum/graphics/Paint", "<init>", "(I)V"⟩ : MethodName) prog_74_method_2_code 2 none :: ws) ({ frames := 1, cells := 0, slots := 0, locals := 12 } : Room)) (fun a U => a = #[(.ref u0), (.int u1)] ∧ Z.Warmed39 U.vm ∧ U.heap = h0) (fun _ _ _ _ _ => True) (fun _ U o U' => ∃ v L, o = .returned v ∧ Q5 Z u0 u1 a_FILL a_BUTT a_MITER a_DEFAULT a_LEFT h0 n0 v U'.heap L ∧ FrameEnd U o U' L ({ frames := 1, cells := 0, slots := 0, locals := 12 } : Room).cells ({ frames := 1, cells := 0, slots := 0, locals := 12 } : Room).slots) := by
  refine MetFree.of_bodySF (plainFor_of_name pn_com_example_decorum_decorum_graphics_Paint) hisR ?_
  intro p e s m args below meth c s₁ Bd hml0 hP hK
  obtain ⟨rfl, hZ, hh⟩ := hP
  have hx := Bd.exec
  have hby := Bd.bytes
  have hml : c.maxLocals = 2 := hml0
  have hown : s.vm.findClass "com/example/decorum/decorum/graphics/Paint" = some m.cls := findClass_of_methodNamed Bd.named
  have hnm := (name_of_methodNamed Bd.named Bd.method).1
  have X0 : Stand p l e ({ frames := 1, cells := 0, slots := 0, locals := 12 } : Room) s m #[(.ref u0), (.int u1)] below meth c s₁ [] 0 0 := Stand.of_body Bd
  have e0 : s₁.heap = h0 := by rw [← hh, Bd.state]; rfl
  have N0 := Fr.nil n0
  have pre0 : ∀ t, Steps p.tables e below (s₁.setTop (mkF m 0 #[.val (.ref u0), .val (.int u1)] [])) t → Steps p.tables e below (s₁.setTop (entryFrame m #[(.ref u0), (.int u1)] 2)) t := fun t k => castTop (ef_5 m u0 u1) k
  obtain ⟨T1, X1, e1, st1⟩ := initO X0 hx hZ hown (hw _ (List.mem_of_getElem? (i := 32) rfl)) (hw _ (List.mem_of_getElem? (i := 33) rfl)) (hw _ (List.mem_of_getElem? (i := 34) rfl)) e0 (g := (mkF m 1 #[.val (.ref u0), .val (.int u1)] [(.ref u0)])) rfl (by rw [hml]; rfl) rfl (hb hby d5_1) (by decide) (W := 0) (by show 2 * 0 + _ ≤ _; exact Nat.le_of_eq rfl) (by decide)
  obtain ⟨T2, h2, X2, e2, W2, st2⟩ := putF X1 hx hZ hown (host := "") (Or.inl (hw _ (List.mem_of_getElem? (i := 35) rfl))) Via.refl e1 F_flags_u0 E_u0 (Or.inl (hw _ (List.mem_of_getElem? (i := 36) rfl))) (hw _ (List.mem_of_getElem? (i := 27) rfl)) (ty := .int) (by decide) rfl rfl (g := (mkF m 6 #[.val (.ref u0), .val (.int u1)] [(.int u1), (.ref u0)])) rfl rfl (hb hby d5_6)
  have Fw2 := F_flags_u0.same W2
  have N2 := Fr.snoc X2 N0 g_u0
  have Z2 : n0 ≤ h2.size := Nat.le_trans Z0 (Keep.of_wr W2).1
  have KK2 := (Keep.refl h0 [u0]).wr W2 (Or.inl (List.mem_of_getElem? (i := 0) rfl))
  have O2 := O0.wr W2 g_u0
  have st3 := X2.ldcInt hx hown (mvT hZ (hw _ (List.mem_of_getElem? (i := 37) rfl))) (g := (mkF m 10 #[.val (.ref u0), .val (.int u1)] [(.ref u0)])) rfl (hb hby d5_10)
  obtain ⟨T4, h4, X4, e4, W4, st4⟩ := putF X2 hx hZ hown (host := "") (Or.inl (hw _ (List.mem_of_getElem? (i := 38) rfl))) Via.refl e2 (F_color_u0.other W2 (Or.inr (slot_ne (Or.inl (hw _ (List.mem_of_getElem? (i := 39) rfl))) (Or.inl (hw _ (List.mem_of_getElem? (i := 36) rfl))) (by decide) (t := .int) (t' := .int) (by decide) (by decide)))) (E_u0.wr W2) (Or.inl (hw _ (List.mem_of_getElem? (i := 39) rfl))) (hw _ (List.mem_of_getElem? (i := 27) rfl)) (ty := .int) (by decide) rfl rfl (g := (mkF m 12 #[.val (.ref u0), .val (.int u1)] [(.int (-16777216 : Int32)), (.ref u0)])) rfl rfl (hb hby d5_12)
  have Fw4 := (F_color_u0.other W2 (Or.inr (slot_ne (Or.inl (hw _ (List.mem_of_getElem? (i := 39) rfl))) (Or.inl (hw _ (List.mem_of_getElem? (i := 36) rfl))) (by decide) (t := .int) (t' := .int) (by decide) (by decide)))).same W4
  have N4 := Fr.snoc X4 N2 g_u0
  have Z4 : n0 ≤ h4.size := Nat.le_trans Z2 (Keep.of_wr W4).1
  have KK4 := KK2.wr W4 (Or.inl (List.mem_of_getElem? (i := 0) rfl))
  have O4 := O2.wr W4 g_u0
  obtain ⟨T5, X5, e5, st5⟩ := getS2 X4 hx hZ hown (host := "") (Or.inl (hw _ (List.mem_of_getElem? (i := 40) rfl))) Via.refl e4 (S_FILL.ext O4.2) (g := (mkF m 16 #[.val (.ref u0), .val (.int u1)] [(.ref u0)])) rfl (hb hby d5_16)
  obtain ⟨T6, h6, X6, e6, W6, st6⟩ := putF X5 hx hZ hown (host := "") (Or.inl (hw _ (List.mem_of_getElem? (i := 42) rfl))) Via.refl e5 ((F_style_u0.other W2 (Or.inr (slot_ne (Or.inl (hw _ (List.mem_of_getElem? (i := 43) rfl))) (Or.inl (hw _ (List.mem_of_getElem? (i := 36) rfl))) (by decide) (t := (.object "com/example/decorum/decorum/graphics/Paint$Style")) (t' := .int) (by decide) (by decide)))).other W4 (Or.inr (slot_ne (Or.inl (hw _ (List.mem_of_getElem? (i := 43) rfl))) (Or.inl (hw _ (List.mem_of_getElem? (i := 39) rfl))) (by decide) (t := (.object "com/example/decorum/decorum/graphics/Paint$Style")) (t' := .int) (by decide) (by decide)))) ((E_u0.wr W2).wr W4) (Or.inl (hw _ (List.mem_of_getElem? (i := 43) rfl))) (hw _ (List.mem_of_getElem? (i := 27) rfl)) (ty := (.object "com/example/decorum/decorum/graphics/Paint$Style")) (by decide) rfl rfl (g := (mkF m 19 #[.val (.ref u0), .val (.int u1)] [(.ref a_FILL), (.ref u0)])) rfl rfl (hb hby d5_19)
  have Fw6 := ((F_style_u0.other W2 (Or.inr (slot_ne (Or.inl (hw _ (List.mem_of_getElem? (i := 43) rfl))) (Or.inl (hw _ (List.mem_of_getElem? (i := 36) rfl))) (by decide) (t := (.object "com/example/decorum/decorum/graphics/Paint$Style")) (t' := .int) (by decide) (by decide)))).other W4 (Or.inr (slot_ne (Or.inl (hw _ (List.mem_of_getElem? (i := 43) rfl))) (Or.inl (hw _ (List.mem_of_getElem? (i := 39) rfl))) (by decide) (t := (.object "com/example/decorum/decorum/graphics/Paint$Style")) (t' := .int) (by decide) (by decide)))).same W6
  have N6 := Fr.snoc X6 N4 g_u0
  have Z6 : n0 ≤ h6.size := Nat.le_trans Z4 (Keep.of_wr W6).1
  have KK6 := KK4.wr W6 (Or.inl (List.mem_of_getElem? (i := 0) rfl))
  have O6 := O4.wr W6 g_u0
  obtain ⟨T7, X7, e7, st7⟩ := getS2 X6 hx hZ hown (host := "") (Or.inl (hw _ (List.mem_of_getElem? (i := 44) rfl))) Via.refl e6 (S_BUTT.ext O6.2) (g := (mkF m 23 #[.val (.ref u0), .val (.int u1)] [(.ref u0)])) rfl (hb hby d5_23)
  obtain ⟨T8, h8, X8, e8, W8, st8⟩ := putF X7 hx hZ hown (host := "") (Or.inl (hw _ (List.mem_of_getElem? (i := 45) rfl))) Via.refl e7 (((F_strokeCap_u0.other W2 (Or.inr (slot_ne (Or.inl (hw _ (List.mem_of_getElem? (i := 46) rfl))) (Or.inl (hw _ (List.mem_of_getElem? (i := 36) rfl))) (by decide) (t := (.object "com/example/decorum/decorum/graphics/Paint$Cap")) (t' := .int) (by decide) (by decide)))).other W4 (Or.inr (slot_ne (Or.inl (hw _ (List.mem_of_getElem? (i := 46) rfl))) (Or.inl (hw _ (List.mem_of_getElem? (i := 39) rfl))) (by decide) (t := (.object "com/example/decorum/decorum/graphics/Paint$Cap")) (t' := .int) (by decide) (by decide)))).other W6 (Or.inr (slot_ne (Or.inl (hw _ (List.mem_of_getElem? (i := 46) rfl))) (Or.inl (hw _ (List.mem_of_getElem? (i := 43) rfl))) (by decide) (t := (.object "com/example/decorum/decorum/graphics/Paint$Cap")) (t' := (.object "com/example/decorum/decorum/graphics/Paint$Style")) (by decide) (by decide)))) (((E_u0.wr W2).wr W4).wr W6) (Or.inl (hw _ (List.mem_of_getElem? (i := 46) rfl))) (hw _ (List.mem_of_getElem? (i := 27) rfl)) (ty := (.object "com/example/decorum/decorum/graphics/Paint$Cap")) (by decide) rfl rfl (g := (mkF m 26 #[.val (.ref u0), .val (.int u1)] [(.ref a_BUTT), (.ref u0)])) rfl rfl (hb hby d5_26)
  have Fw8 := (((F_strokeCap_u0.other W2 (Or.inr (slot_ne (Or.inl (hw _ (List.mem_of_getElem? (i := 46) rfl))) (Or.inl (hw _ (List.mem_of_getElem? (i := 36) rfl))) (by decide) (t := (.object "com/example/decorum/decorum/graphics/Paint$Cap")) (t' := .int) (by decide) (by decide)))).other W4 (Or.inr (slot_ne (Or.inl (hw _ (List.mem_of_getElem? (i := 46) rfl))) (Or.inl (hw _ (List.mem_of_getElem? (i := 39) rfl))) (by decide) (t := (.object "com/example/decorum/decorum/graphics/Paint$Cap")) (t' := .int) (by decide) (by decide)))).other W6 (Or.inr (slot_ne (Or.inl (hw _ (List.mem_of_getElem? (i := 46) rfl))) (Or.inl (hw _ (List.mem_of_getElem? (i := 43) rfl))) (by decide) (t := (.object "com/example/decorum/decorum/graphics/Paint$Cap")) (t' := (.object "com/example/decorum/decorum/graphics/Paint$Style")) (by decide) (by decide)))).same W8
  have N8 := Fr.snoc X8 N6 g_u0
  have Z8 : n0 ≤ h8.size := Nat.le_trans Z6 (Keep.of_wr W8).1
  have KK8 := KK6.wr W8 (Or.inl (List.mem_of_getElem? (i := 0) rfl))
  have O8 := O6.wr W8 g_u0
  obtain ⟨T9, X9, e9, st9⟩ := getS2 X8 hx hZ hown (host := "") (Or.inl (hw _ (List.mem_of_getElem? (i := 47) rfl))) Via.refl e8 (S_MITER.ext O8.2) (g := (mkF m 30 #[.val (.ref u0), .val (.int u1)] [(.ref u0)])) rfl (hb hby d5_30)
  obtain ⟨T10, h10, X10, e10, W10, st10⟩ := putF X9 hx hZ hown (host := "") (Or.inl (hw _ (List.mem_of_getElem? (i := 48) rfl))) Via.refl e9 ((((F_strokeJoin_u0.other W2 (Or.inr (slot_ne (Or.inl (hw _ (List.mem_of_getElem? (i := 49) rfl))) (Or.inl (hw _ (List.mem_of_getElem? (i := 36) rfl))) (by decide) (t := (.object "com/example/decorum/decorum/graphics/Paint$Join")) (t' := .int) (by decide) (by decide)))).other W4 (Or.inr (slot_ne (Or.inl (hw _ (List.mem_of_getElem? (i := 49) rfl))) (Or.inl (hw _ (List.mem_of_getElem? (i := 39) rfl))) (by decide) (t := (.object "com/example/decorum/decorum/graphics/Paint$Join")) (t' := .int) (by decide) (by decide)))).other W6 (Or.inr (slot_ne (Or.inl (hw _ (List.mem_of_getElem? (i := 49) rfl))) (Or.inl (hw _ (List.mem_of_getElem? (i := 43) rfl))) (by decide) (t := (.object "com/example/decorum/decorum/graphics/Paint$Join")) (t' := (.object "com/example/decorum/decorum/graphics/Paint$Style")) (by decide) (by decide)))).other W8 (Or.inr (slot_ne (Or.inl (hw _ (List.mem_of_getElem? (i := 49) rfl))) (Or.inl (hw _ (List.mem_of_getElem? (i := 46) rfl))) (by decide) (t := (.object "com/example/decorum/decorum/graphics/Paint$Join")) (t' := (.object "com/example/decorum/decorum/graphics/Paint$Cap")) (by decide) (by decide)))) ((((E_u0.wr W2).wr W4).wr W6).wr W8) (Or.inl (hw _ (List.mem_of_getElem? (i := 49) rfl))) (hw _ (List.mem_of_getElem? (i := 27) rfl)) (ty := (.object "com/example/decorum/decorum/graphics/Paint$Join")) (by decide) rfl rfl (g := (mkF m 33 #[.val (.ref u0), .val (.int u1)] [(.ref a_MITER), (.ref u0)])) rfl rfl (hb hby d5_33)
  have Fw10 := ((((F_strokeJoin_u0.other W2 (Or.inr (slot_ne (Or.inl (hw _ (List.mem_of_getElem? (i := 49) rfl))) (Or.inl (hw _ (List.mem_of_getElem? (i := 36) rfl))) (by decide) (t := (.object "com/example/decorum/decorum/graphics/Paint$Join")) (t' := .int) (by decide) (by decide)))).other W4 (Or.inr (slot_ne (Or.inl (hw _ (List.mem_of_getElem? (i := 49) rfl))) (Or.inl (hw _ (List.mem_of_getElem? (i := 39) rfl))) (by decide) (t := (.object "com/example/decorum/decorum/graphics/Paint$Join")) (t' := .int) (by decide) (by decide)))).other W6 (Or.inr (slot_ne (Or.inl (hw _ (List.mem_of_getElem? (i := 49) rfl))) (Or.inl (hw _ (List.mem_of_getElem? (i := 43) rfl))) (by decide) (t := (.object "com/example/decorum/decorum/graphics/Paint$Join")) (t' := (.object "com/example/decorum/decorum/graphics/Paint$Style")) (by decide) (by decide)))).other W8 (Or.inr (slot_ne (Or.inl (hw _ (List.mem_of_getElem? (i := 49) rfl))) (Or.inl (hw _ (List.mem_of_getElem? (i := 46) rfl))) (by decide) (t := (.object "com/example/decorum/decorum/graphics/Paint$Join")) (t' := (.object "com/example/decorum/decorum/graphics/Paint$Cap")) (by decide) (by decide)))).same W10
  have N10 := Fr.snoc X10 N8 g_u0
  have Z10 : n0 ≤ h10.size := Nat.le_trans Z8 (Keep.of_wr W10).1
  have KK10 := KK8.wr W10 (Or.inl (List.mem_of_getElem? (i := 0) rfl))
  have O10 := O8.wr W10 g_u0
  obtain ⟨T11, X11, e11, st11⟩ := getS2 X10 hx hZ hown (host := "") (Or.inl (hw _ (List.mem_of_getElem? (i := 50) rfl))) Via.refl e10 (S_DEFAULT.ext O10.2) (g := (mkF m 37 #[.val (.ref u0), .val (.int u1)] [(.ref u0)])) rfl (hb hby d5_37)
  obtain ⟨T12, h12, X12, e12, W12, st12⟩ := putF X11 hx hZ hown (host := "") (Or.inl (hw _ (List.mem_of_getElem? (i := 53) rfl))) Via.refl e11 (((((F_typeface_u0.other W2 (Or.inr (slot_ne (Or.inl (hw _ (List.mem_of_getElem? (i := 54) rfl))) (Or.inl (hw _ (List.mem_of_getElem? (i := 36) rfl))) (by decide) (t := (.object "com/example/decorum/decorum/graphics/Typeface")) (t' := .int) (by decide) (by decide)))).other W4 (Or.inr (slot_ne (Or.inl (hw _ (List.mem_of_getElem? (i := 54) rfl))) (Or.inl (hw _ (List.mem_of_getElem? (i := 39) rfl))) (by decide) (t := (.object "com/example/decorum/decorum/graphics/Typeface")) (t' := .int) (by decide) (by decide)))).other W6 (Or.inr (slot_ne (Or.inl (hw _ (List.mem_of_getElem? (i := 54) rfl))) (Or.inl (hw _ (List.mem_of_getElem? (i := 43) rfl))) (by decide) (t := (.object "com/example/decorum/decorum/graphics/Typeface")) (t' := (.object "com/example/decorum/decorum/graphics/Paint$Style")) (by decide) (by decide)))).other W8 (Or.inr (slot_ne (Or.inl (hw _ (List.mem_of_getElem? (i := 54) rfl))) (Or.inl (hw _ (List.mem_of_getElem? (i := 46) rfl))) (by decide) (t := (.object "com/example/decorum/decorum/graphics/Typeface")) (t' := (.object "com/example/decorum/decorum/graphics/Paint$Cap")) (by decide) (by decide)))).other W10 (Or.inr (slot_ne (Or.inl (hw _ (List.mem_of_getElem? (i := 54) rfl))) (Or.inl (hw _ (List.mem_of_getElem? (i := 49) rfl))) (by decide) (t := (.object "com/example/decorum/decorum/graphics/Typeface")) (t' := (.object "com/example/decorum/decorum/graphics/Paint$Join")) (by decide) (by decide)))) (((((E_u0.wr W2).wr W4).wr W6).wr W8).wr W10) (Or.inl (hw _ (List.mem_of_getElem? (i := 54) rfl))) (hw _ (List.mem_of_getElem? (i := 27) rfl)) (ty := (.object "com/example/decorum/decorum/graphics/Typeface")) (by decide) rfl rfl (g := (mkF m 40 #[.val (.ref u0), .val (.int u1)] [(.ref a_DEFAULT), (.ref u0)])) rfl rfl (hb hby d5_40)
  have Fw12 := (((((F_typeface_u0.other W2 (Or.inr (slot_ne (Or.inl (hw _ (List.mem_of_getElem? (i := 54) rfl))) (Or.inl (hw _ (List.mem_of_getElem? (i := 36) rfl))) (by decide) (t := (.object "com/example/decorum/decorum/graphics/Typeface")) (t' := .int) (by decide) (by decide)))).other W4 (Or.inr (slot_ne (Or.inl (hw _ (List.mem_of_getElem? (i := 54) rfl))) (Or.inl (hw _ (List.mem_of_getElem? (i := 39) rfl))) (by decide) (t := (.object "com/example/decorum/decorum/graphics/Typeface")) (t' := .int) (by decide) (by decide)))).other W6 (Or.inr (slot_ne (Or.inl (hw _ (List.mem_of_getElem? (i := 54) rfl))) (Or.inl (hw _ (List.mem_of_getElem? (i := 43) rfl))) (by decide) (t := (.object "com/example/decorum/decorum/graphics/Typeface")) (t' := (.object "com/example/decorum/decorum/graphics/Paint$Style")) (by decide) (by decide)))).other W8 (Or.inr (slot_ne (Or.inl (hw _ (List.mem_of_getElem? (i := 54) rfl))) (Or.inl (hw _ (List.mem_of_getElem? (i := 46) rfl))) (by decide) (t := (.object "com/example/decorum/decorum/graphics/Typeface")) (t' := (.object "com/example/decorum/decorum/graphics/Paint$Cap")) (by decide) (by decide)))).other W10 (Or.inr (slot_ne (Or.inl (hw _ (List.mem_of_getElem? (i := 54) rfl))) (Or.inl (hw _ (List.mem_of_getElem? (i := 49) rfl))) (by decide) (t := (.object "com/example/decorum/decorum/graphics/Typeface")) (t' := (.object "com/example/decorum/decorum/graphics/Paint$Join")) (by decide) (by decide)))).same W12
  have N12 := Fr.snoc X12 N10 g_u0
  have Z12 : n0 ≤ h12.size := Nat.le_trans Z10 (Keep.of_wr W12).1
  have KK12 := KK10.wr W12 (Or.inl (List.mem_of_getElem? (i := 0) rfl))
  have O12 := O10.wr W12 g_u0
  have st13 := X12.ldcFloatC hx hown (mvT hZ (hw _ (List.mem_of_getElem? (i := 55) rfl))) (g := (mkF m 44 #[.val (.ref u0), .val (.int u1)] [(.ref u0)])) rfl (hb hby d5_44)
  obtain ⟨T14, h14, X14, e14, W14, st14⟩ := putF X12 hx hZ hown (host := "") (Or.inl (hw _ (List.mem_of_getElem? (i := 56) rfl))) Via.refl e12 ((((((F_textSize_u0.other W2 (Or.inr (slot_ne (Or.inl (hw _ (List.mem_of_getElem? (i := 57) rfl))) (Or.inl (hw _ (List.mem_of_getElem? (i := 36) rfl))) (by decide) (t := .float) (t' := .int) (by decide) (by decide)))).other W4 (Or.inr (slot_ne (Or.inl (hw _ (List.mem_of_getElem? (i := 57) rfl))) (Or.inl (hw _ (List.mem_of_getElem? (i := 39) rfl))) (by decide) (t := .float) (t' := .int) (by decide) (by decide)))).other W6 (Or.inr (slot_ne (Or.inl (hw _ (List.mem_of_getElem? (i := 57) rfl))) (Or.inl (hw _ (List.mem_of_getElem? (i := 43) rfl))) (by decide) (t := .float) (t' := (.object "com/example/decorum/decorum/graphics/Paint$Style")) (by decide) (by decide)))).other W8 (Or.inr (slot_ne (Or.inl (hw _ (List.mem_of_getElem? (i := 57) rfl))) (Or.inl (hw _ (List.mem_of_getElem? (i := 46) rfl))) (by decide) (t := .float) (t' := (.object "com/example/decorum/decorum/graphics/Paint$Cap")) (by decide) (by decide)))).other W10 (Or.inr (slot_ne (Or.inl (hw _ (List.mem_of_getElem? (i := 57) rfl))) (Or.inl (hw _ (List.mem_of_getElem? (i := 49) rfl))) (by decide) (t := .float) (t' := (.object "com/example/decorum/decorum/graphics/Paint$Join")) (by decide) (by decide)))).other W12 (Or.inr (slot_ne (Or.inl (hw _ (List.mem_of_getElem? (i := 57) rfl))) (Or.inl (hw _ (List.mem_of_getElem? (i := 54) rfl))) (by decide) (t := .float) (t' := (.object "com/example/decorum/decorum/graphics/Typeface")) (by decide) (by decide)))) ((((((E_u0.wr W2).wr W4).wr W6).wr W8).wr W10).wr W12) (Or.inl (hw _ (List.mem_of_getElem? (i := 57) rfl))) (hw _ (List.mem_of_getElem? (i := 27) rfl)) (ty := .float) (by decide) rfl rfl (g := (mkF m 46 #[.val (.ref u0), .val (.int u1)] [(.float (1094713344 : UInt32)), (.ref u0)])) rfl rfl (hb hby d5_46)
  have Fw14 := ((((((F_textSize_u0.other W2 (Or.inr (slot_ne (Or.inl (hw _ (List.mem_of_getElem? (i := 57) rfl))) (Or.inl (hw _ (List.mem_of_getElem? (i := 36) rfl))) (by decide) (t := .float) (t' := .int) (by decide) (by decide)))).other W4 (Or.inr (slot_ne (Or.inl (hw _ (List.mem_of_getElem? (i := 57) rfl))) (Or.inl (hw _ (List.mem_of_getElem? (i := 39) rfl))) (by decide) (t := .float) (t' := .int) (by decide) (by decide)))).other W6 (Or.inr (slot_ne (Or.inl (hw _ (List.mem_of_getElem? (i := 57) rfl))) (Or.inl (hw _ (List.mem_of_getElem? (i := 43) rfl))) (by decide) (t := .float) (t' := (.object "com/example/decorum/decorum/graphics/Paint$Style")) (by decide) (by decide)))).other W8 (Or.inr (slot_ne (Or.inl (hw _ (List.mem_of_getElem? (i := 57) rfl))) (Or.inl (hw _ (List.mem_of_getElem? (i := 46) rfl))) (by decide) (t := .float) (t' := (.object "com/example/decorum/decorum/graphics/Paint$Cap")) (by decide) (by decide)))).other W10 (Or.inr (slot_ne (Or.inl (hw _ (List.mem_of_getElem? (i := 57) rfl))) (Or.inl (hw _ (List.mem_of_getElem? (i := 49) rfl))) (by decide) (t := .float) (t' := (.object "com/example/decorum/decorum/graphics/Paint$Join")) (by decide) (by decide)))).other W12 (Or.inr (slot_ne (Or.inl (hw _ (List.mem_of_getElem? (i := 57) rfl))) (Or.inl (hw _ (List.mem_of_getElem? (i := 54) rfl))) (by decide) (t := .float) (t' := (.object "com/example/decorum/decorum/graphics/Typeface")) (by decide) (by decide)))).same W14
  have N14 := Fr.snoc X14 N12 g_u0
  have Z14 : n0 ≤ h14.size := Nat.le_trans Z12 (Keep.of_wr W14).1
  have KK14 := KK12.wr W14 (Or.inl (List.mem_of_getElem? (i := 0) rfl))
  have O14 := O12.wr W14 g_u0
  obtain ⟨T15, X15, e15, st15⟩ := getS2 X14 hx hZ hown (host := "") (Or.inl (hw _ (List.mem_of_getElem? (i := 58) rfl))) Via.refl e14 (S_LEFT.ext O14.2) (g := (mkF m 50 #[.val (.ref u0), .val (.int u1)] [(.ref u0)])) rfl (hb hby d5_50)
  obtain ⟨T16, h16, X16, e16, W16, st16⟩ := putF X15 hx hZ hown (host := "") (Or.inl (hw _ (List.mem_of_getElem? (i := 59) rfl))) Via.refl e15 (((((((F_textAlign_u0.other W2 (Or.inr (slot_ne (Or.inl (hw _ (List.mem_of_getElem? (i := 60) rfl))) (Or.inl (hw _ (List.mem_of_getElem? (i := 36) rfl))) (by decide) (t := (.object "com/example/decorum/decorum/graphics/Paint$Align")) (t' := .int) (by decide) (by decide)))).other W4 (Or.inr (slot_ne (Or.inl (hw _ (List.mem_of_getElem? (i := 60) rfl))) (Or.inl (hw _ (List.mem_of_getElem? (i := 39) rfl))) (by decide) (t := (.object "com/example/decorum/decorum/graphics/Paint$Align")) (t' := .int) (by decide) (by decide)))).other W6 (Or.inr (slot_ne (Or.inl (hw _ (List.mem_of_getElem? (i := 60) rfl))) (Or.inl (hw _ (List.mem_of_getElem? (i := 43) rfl))) (by decide) (t := (.object "com/example/decorum/decorum/graphics/Paint$Align")) (t' := (.object "com/example/decorum/decorum/graphics/Paint$Style")) (by decide) (by decide)))).other W8 (Or.inr (slot_ne (Or.inl (hw _ (List.mem_of_getElem? (i := 60) rfl))) (Or.inl (hw _ (List.mem_of_getElem? (i := 46) rfl))) (by decide) (t := (.object "com/example/decorum/decorum/graphics/Paint$Align")) (t' := (.object "com/example/decorum/decorum/graphics/Paint$Cap")) (by decide) (by decide)))).other W10 (Or.inr (slot_ne (Or.inl (hw _ (List.mem_of_getElem? (i := 60) rfl))) (Or.inl (hw _ (List.mem_of_getElem? (i := 49) rfl))) (by decide) (t := (.object "com/example/decorum/decorum/graphics/Paint$Align")) (t' := (.object "com/example/decorum/decorum/graphics/Paint$Join")) (by decide) (by decide)))).other W12 (Or.inr (slot_ne (Or.inl (hw _ (List.mem_of_getElem? (i := 60) rfl))) (Or.inl (hw _ (List.mem_of_getElem? (i := 54) rfl))) (by decide) (t := (.object "com/example/decorum/decorum/graphics/Paint$Align")) (t' := (.object "com/example/decorum/decorum/graphics/Typeface")) (by decide) (by decide)))).other W14 (Or.inr (slot_ne (Or.inl (hw _ (List.mem_of_getElem? (i := 60) rfl))) (Or.inl (hw _ (List.mem_of_getElem? (i := 57) rfl))) (by decide) (t := (.object "com/example/decorum/decorum/graphics/Paint$Align")) (t' := .float) (by decide) (by decide)))) (((((((E_u0.wr W2).wr W4).wr W6).wr W8).wr W10).wr W12).wr W14) (Or.inl (hw _ (List.mem_of_getElem? (i := 60) rfl))) (hw _ (List.mem_of_getElem? (i := 27) rfl)) (ty := (.object "com/example/decorum/decorum/graphics/Paint$Align")) (by decide) rfl rfl (g := (mkF m 53 #[.val (.ref u0), .val (.int u1)] [(.ref a_LEFT), (.ref u0)])) rfl rfl (hb hby d5_53)
  have Fw16 := (((((((F_textAlign_u0.other W2 (Or.inr (slot_ne (Or.inl (hw _ (List.mem_of_getElem? (i := 60) rfl))) (Or.inl (hw _ (List.mem_of_getElem? (i := 36) rfl))) (by decide) (t := (.object "com/example/decorum/decorum/graphics/Paint$Align")) (t' := .int) (by decide) (by decide)))).other W4 (Or.inr (slot_ne (Or.inl (hw _ (List.mem_of_getElem? (i := 60) rfl))) (Or.inl (hw _ (List.mem_of_getElem? (i := 39) rfl))) (by decide) (t := (.object "com/example/decorum/decorum/graphics/Paint$Align")) (t' := .int) (by decide) (by decide)))).other W6 (Or.inr (slot_ne (Or.inl (hw _ (List.mem_of_getElem? (i := 60) rfl))) (Or.inl (hw _ (List.mem_of_getElem? (i := 43) rfl))) (by decide) (t := (.object "com/example/decorum/decorum/graphics/Paint$Align")) (t' := (.object "com/example/decorum/decorum/graphics/Paint$Style")) (by decide) (by decide)))).other W8 (Or.inr (slot_ne (Or.inl (hw _ (List.mem_of_getElem? (i := 60) rfl))) (Or.inl (hw _ (List.mem_of_getElem? (i := 46) rfl))) (by decide) (t := (.object "com/example/decorum/decorum/graphics/Paint$Align")) (t' := (.object "com/example/decorum/decorum/graphics/Paint$Cap")) (by decide) (by decide)))).other W10 (Or.inr (slot_ne (Or.inl (hw _ (List.mem_of_getElem? (i := 60) rfl))) (Or.inl (hw _ (List.mem_of_getElem? (i := 49) rfl))) (by decide) (t := (.object "com/example/decorum/decorum/graphics/Paint$Align")) (t' := (.object "com/example/decorum/decorum/graphics/Paint$Join")) (by decide) (by decide)))).other W12 (Or.inr (slot_ne (Or.inl (hw _ (List.mem_of_getElem? (i := 60) rfl))) (Or.inl (hw _ (List.mem_of_getElem? (i := 54) rfl))) (by decide) (t := (.object "com/example/decorum/decorum/graphics/Paint$Align")) (t' := (.object "com/example/decorum/decorum/graphics/Typeface")) (by decide) (by decide)))).other W14 (Or.inr (slot_ne (Or.inl (hw _ (List.mem_of_getElem? (i := 60) rfl))) (Or.inl (hw _ (List.mem_of_getElem? (i := 57) rfl))) (by decide) (t := (.object "com/example/decorum/decorum/graphics/Paint$Align")) (t' := .float) (by decide) (by decide)))).same W16
  have N16 := Fr.snoc X16 N14 g_u0
  have Z16 : n0 ≤ h16.size := Nat.le_trans Z14 (Keep.of_wr W16).1
  have KK16 := KK14.wr W16 (Or.inl (List.mem_of_getElem? (i := 0) rfl))
  have O16 := O14.wr W16 g_u0
  obtain ⟨fs, hr, hrun, hended, hW, hsame⟩ := X16.leave (v := none) (fun _ => rfl)
  refine ⟨_, _, pre0 _ ?_, hrun, hended, _, _, rfl, ?_, ⟨_, rfl⟩, hW, hsame.mono (by decide) (by decide)⟩
  · show Steps p.tables e below (s₁.setTop (mkF m 0 #[.val (.ref u0), .val (.int u1)] [])) _
    refine XS.aloadN X0.here hx rfl (hb hby d5_0) rfl rfl ?_
    show Steps p.tables e below (s₁.setTop (mkF m 1 #[.val (.ref u0), .val (.int u1)] [(.ref u0)])) _
    refine st1 _ ?_
    show Steps p.tables e below (T1.setTop (mkF m 4 #[.val (.ref u0), .val (.int u1)] [])) _
    refine XS.aloadN X1.here hx rfl (hb hby d5_4) rfl rfl ?_
    show Steps p.tables e below (T1.setTop (mkF m 5 #[.val (.ref u0), .val (.int u1)] [(.ref u0)])) _
    refine XS.iloadN X1.here hx rfl (hb hby d5_5) rfl ?_
    show Steps p.tables e below (T1.setTop (mkF m 6 #[.val (.ref u0), .val (.int u1)] [(.int u1), (.ref u0)])) _
    refine st2 _ ?_
    show Steps p.tables e below (T2.setTop (mkF m 9 #[.val (.ref u0), .val (.int u1)] [])) _
    refine XS.aloadN X2.here hx rfl (hb hby d5_9) rfl rfl ?_
    show Steps p.tables e below (T2.setTop (mkF m 10 #[.val (.ref u0), .val (.int u1)] [(.ref u0)])) _
    refine st3 _ ?_
    show Steps p.tables e below (T2.setTop (mkF m 12 #[.val (.ref u0), .val (.int u1)] [(.int (-16777216 : Int32)), (.ref u0)])) _
    refine st4 _ ?_
    show Steps p.tables e below (T4.setTop (mkF m 15 #[.val (.ref u0), .val (.int u1)] [])) _
    refine XS.aloadN X4.here hx rfl (hb hby d5_15) rfl rfl ?_
    show Steps p.tables e below (T4.setTop (mkF m 16 #[.val (.ref u0), .val (.int u1)] [(.ref u0)])) _
    refine st5 _ ?_
    show Steps p.tables e below (T5.setTop (mkF m 19 #[.val (.ref u0), .val (.int u1)] [(.ref a_FILL), (.ref u0)])) _
    refine st6 _ ?_
    show Steps p.tables e below (T6.setTop (mkF m 22 #[.val (.ref u0), .val (.int u1)] [])) _
    refine XS.aloadN X6.here hx rfl (hb hby d5_22) rfl rfl ?_
    show Steps p.tables e below (T6.setTop (mkF m 23 #[.val (.ref u0), .val (.int u1)] [(.ref u0)])) _
    refine st7 _ ?_
    show Steps p.tables e below (T7.setTop (mkF m 26 #[.val (.ref u0), .val (.int u1)] [(.ref a_BUTT), (.ref u0)])) _
    refine st8 _ ?_
    show Steps p.tables e below (T8.setTop (mkF m 29 #[.val (.ref u0), .val (.int u1)] [])) _
    refine XS.aloadN X8.here hx rfl (hb hby d5_29) rfl rfl ?_
    show Steps p.tables e below (T8.setTop (mkF m 30 #[.val (.ref u0), .val (.int u1)] [(.ref u0)])) _
    refine st9 _ ?_
    show Steps p.tables e below (T9.setTop (mkF m 33 #[.val (.ref u0), .val (.int u1)] [(.ref a_MITER), (.ref u0)])) _
    refine st10 _ ?_
    show Steps p.tables e below (T10.setTop (mkF m 36 #[.val (.ref u0), .val (.int u1)] [])) _
    refine XS.aloadN X10.here hx rfl (hb hby d5_36) rfl rfl ?_
    show Steps p.tables e below (T10.setTop (mkF m 37 #[.val (.ref u0), .val (.int u1)] [(.ref u0)])) _
    refine st11 _ ?_
    show Steps p.tables e below (T11.setTop (mkF m 40 #[.val (.ref u0), .val (.int u1)] [(.ref a_DEFAULT), (.ref u0)])) _
    refine st12 _ ?_
    show Steps p.tables e below (T12.setTop (mkF m 43 #[.val (.ref u0), .val (.int u1)] [])) _
    refine XS.aloadN X12.here hx rfl (hb hby d5_43) rfl rfl ?_
    show Steps p.tables e below (T12.setTop (mkF m 44 #[.val (.ref u0), .val (.int u1)] [(.ref u0)])) _
    refine st13 _ ?_
    show Steps p.tables e below (T12.setTop (mkF m 46 #[.val (.ref u0), .val (.int u1)] [(.float (1094713344 : UInt32)), (.ref u0)])) _
    refine st14 _ ?_
    show Steps p.tables e below (T14.setTop (mkF m 49 #[.val (.ref u0), .val (.int u1)] [])) _
    refine XS.aloadN X14.here hx rfl (hb hby d5_49) rfl rfl ?_
    show Steps p.tables e below (T14.setTop (mkF m 50 #[.val (.ref u0), .val (.int u1)] [(.ref u0)])) _
    refine st15 _ ?_
    show Steps p.tables e below (T15.setTop (mkF m 53 #[.val (.ref u0), .val (.int u1)] [(.ref a_LEFT), (.ref u0)])) _
    refine st16 _ ?_
    show Steps p.tables e below (T16.setTop (mkF m 56 #[.val (.ref u0), .val (.int u1)] [])) _
    exact X16.returnOut hx Bd.returns (hb hby d5_56) hr
  · show Q5 Z u0 u1 a_FILL a_BUTT a_MITER a_DEFAULT a_LEFT h0 n0 _ T16.heap _
    rw [e16]
    exact ⟨rfl, N16, KK16, ((((((((E_u0.wr W2).wr W4).wr W6).wr W8).wr W10).wr W12).wr W14).wr W16), (((((((Fw2.other W4 (Or.inr (slot_ne (Or.inl (hw _ (List.mem_of_getElem? (i := 36) rfl))) (Or.inl (hw _ (List.mem_of_getElem? (i := 39) rfl))) (by decide) (t := .int) (t' := .int) (by decide) (by decide)))).other W6 (Or.inr (slot_ne (Or.inl (hw _ (List.mem_of_getElem? (i := 36) rfl))) (Or.inl (hw _ (List.mem_of_getElem? (i := 43) rfl))) (by decide) (t := .int) (t' := (.object "com/example/decorum/decorum/graphics/Paint$Style")) (by decide) (by decide)))).other W8 (Or.inr (slot_ne (Or.inl (hw _ (List.mem_of_getElem? (i := 36) rfl))) (Or.inl (hw _ (List.mem_of_getElem? (i := 46) rfl))) (by decide) (t := .int) (t' := (.object "com/example/decorum/decorum/graphics/Paint$Cap")) (by decide) (by decide)))).other W10 (Or.inr (slot_ne (Or.inl (hw _ (List.mem_of_getElem? (i := 36) rfl))) (Or.inl (hw _ (List.mem_of_getElem? (i := 49) rfl))) (by decide) (t := .int) (t' := (.object "com/example/decorum/decorum/graphics/Paint$Join")) (by decide) (by decide)))).other W12 (Or.inr (slot_ne (Or.inl (hw _ (List.mem_of_getElem? (i := 36) rfl))) (Or.inl (hw _ (List.mem_of_getElem? (i := 54) rfl))) (by decide) (t := .int) (t' := (.object "com/example/decorum/decorum/graphics/Typeface")) (by decide) (by decide)))).other W14 (Or.inr (slot_ne (Or.inl (hw _ (List.mem_of_getElem? (i := 36) rfl))) (Or.inl (hw _ (List.mem_of_getElem? (i := 57) rfl))) (by decide) (t := .int) (t' := .float) (by decide) (by decide)))).other W16 (Or.inr (slot_ne (Or.inl (hw _ (List.mem_of_getElem? (i := 36) rfl))) (Or.inl (hw _ (List.mem_of_getElem? (i := 60) rfl))) (by decide) (t := .int) (t' := (.object "com/example/decorum/decorum/graphics/Paint$Align")) (by decide) (by decide)))), ((((((Fw4.other W6 (Or.inr (slot_ne (Or.inl (hw _ (List.mem_of_getElem? (i := 39) rfl))) (Or.inl (hw _ (List.mem_of_getElem? (i := 43) rfl))) (by decide) (t := .int) (t' := (.object "com/example/decorum/decorum/graphics/Paint$Style")) (by decide) (by decide)))).other W8 (Or.inr (slot_ne (Or.inl (hw _ (List.mem_of_getElem? (i := 39) rfl))) (Or.inl (hw _ (List.mem_of_getElem? (i := 46) rfl))) (by decide) (t := .int) (t' := (.object "com/example/decorum/decorum/graphics/Paint$Cap")) (by decide) (by decide)))).other W10 (Or.inr (slot_ne (Or.inl (hw _ (List.mem_of_getElem? (i := 39) rfl))) (Or.inl (hw _ (List.mem_of_getElem? (i := 49) rfl))) (by decide) (t := .int) (t' := (.object "com/example/decorum/decorum/graphics/Paint$Join")) (by decide) (by decide)))).other W12 (Or.inr (slot_ne (Or.inl (hw _ (List.mem_of_getElem? (i := 39) rfl))) (Or.inl (hw _ (List.mem_of_getElem? (i := 54) rfl))) (by decide) (t := .int) (t' := (.object "com/example/decorum/decorum/graphics/Typeface")) (by decide) (by decide)))).other W14 (Or.inr (slot_ne (Or.inl (hw _ (List.mem_of_getElem? (i := 39) rfl))) (Or.inl (hw _ (List.mem_of_getElem? (i := 57) rfl))) (by decide) (t := .int) (t' := .float) (by decide) (by decide)))).other W16 (Or.inr (slot_ne (Or.inl (hw _ (List.mem_of_getElem? (i := 39) rfl))) (Or.inl (hw _ (List.mem_of_getElem? (i := 60) rfl))) (by decide) (t := .int) (t' := (.object "com/example/decorum/decorum/graphics/Paint$Align")) (by decide) (by decide)))), (((((Fw6.other W8 (Or.inr (slot_ne (Or.inl (hw _ (List.mem_of_getElem? (i := 43) rfl))) (Or.inl (hw _ (List.mem_of_getElem? (i := 46) rfl))) (by decide) (t := (.object "com/example/decorum/decorum/graphics/Paint$Style")) (t' := (.object "com/example/decorum/decorum/graphics/Paint$Cap")) (by decide) (by decide)))).other W10 (Or.inr (slot_ne (Or.inl (hw _ (List.mem_of_getElem? (i := 43) rfl))) (Or.inl (hw _ (List.mem_of_getElem? (i := 49) rfl))) (by decide) (t := (.object "com/example/decorum/decorum/graphics/Paint$Style")) (t' := (.object "com/example/decorum/decorum/graphics/Paint$Join")) (by decide) (by decide)))).other W12 (Or.inr (slot_ne (Or.inl (hw _ (List.mem_of_getElem? (i := 43) rfl))) (Or.inl (hw _ (List.mem_of_getElem? (i := 54) rfl))) (by decide) (t := (.object "com/example/decorum/decorum/graphics/Paint$Style")) (t' := (.object "com/example/decorum/decorum/graphics/Typeface")) (by decide) (by decide)))).other W14 (Or.inr (slot_ne (Or.inl (hw _ (List.mem_of_getElem? (i := 43) rfl))) (Or.inl (hw _ (List.mem_of_getElem? (i := 57) rfl))) (by decide) (t := (.object "com/example/decorum/decorum/graphics/Paint$Style")) (t' := .float) (by decide) (by decide)))).other W16 (Or.inr (slot_ne (Or.inl (hw _ (List.mem_of_getElem? (i := 43) rfl))) (Or.inl (hw _ (List.mem_of_getElem? (i := 60) rfl))) (by decide) (t := (.object "com/example/decorum/decorum/graphics/Paint$Style")) (t' := (.object "com/example/decorum/decorum/graphics/Paint$Align")) (by decide) (by decide)))), ((((((((F_strokeWidth_u0.other W2 (Or.inr (slot_ne (Or.inl (hw _ (List.mem_of_getElem? (i := 92) rfl))) (Or.inl (hw _ (List.mem_of_getElem? (i := 36) rfl))) (by decide) (t := .float) (t' := .int) (by decide) (by decide)))).other W4 (Or.inr (slot_ne (Or.inl (hw _ (List.mem_of_getElem? (i := 92) rfl))) (Or.inl (hw _ (List.mem_of_getElem? (i := 39) rfl))) (by decide) (t := .float) (t' := .int) (by decide) (by decide)))).other W6 (Or.inr (slot_ne (Or.inl (hw _ (List.mem_of_getElem? (i := 92) rfl))) (Or.inl (hw _ (List.mem_of_getElem? (i := 43) rfl))) (by decide) (t := .float) (t' := (.object "com/example/decorum/decorum/graphics/Paint$Style")) (by decide) (by decide)))).other W8 (Or.inr (slot_ne (Or.inl (hw _ (List.mem_of_getElem? (i := 92) rfl))) (Or.inl (hw _ (List.mem_of_getElem? (i := 46) rfl))) (by decide) (t := .float) (t' := (.object "com/example/decorum/decorum/graphics/Paint$Cap")) (by decide) (by decide)))).other W10 (Or.inr (slot_ne (Or.inl (hw _ (List.mem_of_getElem? (i := 92) rfl))) (Or.inl (hw _ (List.mem_of_getElem? (i := 49) rfl))) (by decide) (t := .float) (t' := (.object "com/example/decorum/decorum/graphics/Paint$Join")) (by decide) (by decide)))).other W12 (Or.inr (slot_ne (Or.inl (hw _ (List.mem_of_getElem? (i := 92) rfl))) (Or.inl (hw _ (List.mem_of_getElem? (i := 54) rfl))) (by decide) (t := .float) (t' := (.object "com/example/decorum/decorum/graphics/Typeface")) (by decide) (by decide)))).other W14 (Or.inr (slot_ne (Or.inl (hw _ (List.mem_of_getElem? (i := 92) rfl))) (Or.inl (hw _ (List.mem_of_getElem? (i := 57) rfl))) (by decide) (t := .float) (t' := .float) (by decide) (by decide)))).other W16 (Or.inr (slot_ne (Or.inl (hw _ (List.mem_of_getElem? (i := 92) rfl))) (Or.inl (hw _ (List.mem_of_getElem? (i := 60) rfl))) (by decide) (t := .float) (t' := (.object "com/example/decorum/decorum/graphics/Paint$Align")) (by decide) (by decide)))), ((((Fw8.other W10 (Or.inr (slot_ne (Or.inl (hw _ (List.mem_of_getElem? (i := 46) rfl))) (Or.inl (hw _ (List.mem_of_getElem? (i := 49) rfl))) (by decide) (t := (.object "com/example/decorum/decorum/graphics/Paint$Cap")) (t' := (.object "com/example/decorum/decorum/graphics/Paint$Join")) (by decide) (by decide)))).other W12 (Or.inr (slot_ne (Or.inl (hw _ (List.mem_of_getElem? (i := 46) rfl))) (Or.inl (hw _ (List.mem_of_getElem? (i := 54) rfl))) (by decide) (t := (.object "com/example/decorum/decorum/graphics/Paint$Cap")) (t' := (.object "com/example/decorum/decorum/graphics/Typeface")) (by decide) (by decide)))).other W14 (Or.inr (slot_ne (Or.inl (hw _ (List.mem_of_getElem? (i := 46) rfl))) (Or.inl (hw _ (List.mem_of_getElem? (i := 57) rfl))) (by decide) (t := (.object "com/example/decorum/decorum/graphics/Paint$Cap")) (t' := .float) (by decide) (by decide)))).other W16 (Or.inr (slot_ne (Or.inl (hw _ (List.mem_of_getElem? (i := 46) rfl))) (Or.inl (hw _ (List.mem_of_getElem? (i := 60) rfl))) (by decide) (t := (.object "com/example/decorum/decorum/graphics/Paint$Cap")) (t' := (.object "com/example/decorum/decorum/graphics/Paint$Align")) (by decide) (by decide)))), (((Fw10.other W12 (Or.inr (slot_ne (Or.inl (hw _ (List.mem_of_getElem? (i := 49) rfl))) (Or.inl (hw _ (List.mem_of_getElem? (i := 54) rfl))) (by decide) (t := (.object "com/example/decorum/decorum/graphics/Paint$Join")) (t' := (.object "com/example/decorum/decorum/graphics/Typeface")) (by decide) (by decide)))).other W14 (Or.inr (slot_ne (Or.inl (hw _ (List.mem_of_getElem? (i := 49) rfl))) (Or.inl (hw _ (List.mem_of_getElem? (i := 57) rfl))) (by decide) (t := (.object "com/example/decorum/decorum/graphics/Paint$Join")) (t' := .float) (by decide) (by decide)))).other W16 (Or.inr (slot_ne (Or.inl (hw _ (List.mem_of_getElem? (i := 49) rfl))) (Or.inl (hw _ (List.mem_of_getElem? (i := 60) rfl))) (by decide) (t := (.object "com/example/decorum/decorum/graphics/Paint$Join")) (t' := (.object "com/example/decorum/decorum/graphics/Paint$Align")) (by decide) (by decide)))), ((Fw12.other W14 (Or.inr (slot_ne (Or.inl (hw _ (List.mem_of_getElem? (i := 54) rfl))) (Or.inl (hw _ (List.mem_of_getElem? (i := 57) rfl))) (by decide) (t := (.object "com/example/decorum/decorum/graphics/Typeface")) (t' := .float) (by decide) (by decide)))).other W16 (Or.inr (slot_ne (Or.inl (hw _ (List.mem_of_getElem? (i := 54) rfl))) (Or.inl (hw _ (List.mem_of_getElem? (i := 60) rfl))) (by decide) (t := (.object "com/example/decorum/decorum/graphics/Typeface")) (t' := (.object "com/example/decorum/decorum/graphics/Paint$Align")) (by decide) (by decide)))), (Fw14.other W16 (Or.inr (slot_ne (Or.inl (hw _ (List.mem_of_getElem? (i := 57) rfl))) (Or.inl (hw _ (List.mem_of_getElem? (i := 60) rfl))) (by decide) (t := .float) (t' := (.object "com/example/decorum/decorum/graphics/Paint$Align")) (by decide) (by decide)))), Fw16⟩
theorem d9_0 : decode jdk_31_method_11_code 0 = .ok (.aload_n 0, 1) := by decide +kernel
theorem d9_1 : decode jdk_31_method_11_code 1 = .ok (.ifnonnull 12, 3) := by decide +kernel
theorem d9_13 : decode jdk_31_method_11_code 13 = .ok (.aload_n 0, 1) := by decide +kernel
theorem d9_14 : decode jdk_31_method_11_code 14 = .ok (.areturn, 1) := by decide +kernel
theorem pn_java_util_Objects : plainName "java/util/Objects" = true := by first | (simp [plainName, overriddenIn]; done) | decide +kernel
theorem ef_9 (m : MethodId) (u0 : Addr) (u1 : Addr) : entryFrame m #[(.ref u0), (.ref u1)] 2 = mkF m 0 #[.val (.ref u0), .val (.ref u1)] [] := by first | (simp [entryFrame, mkF, argsToLocals, Value.category]; done) | rfl
def Q9 (Z : State) (u0 : Addr) (u1 : Addr) (h0 : Heap) (n0 : Nat) (v : Option Value) (h : Heap) (L : List Loc) : Prop := v = some (.ref u0) ∧ Fr n0 L ∧ h = h0
set_option maxRecDepth 65536 in
set_option maxHeartbeats 40000000 in
theorem rm9 (l : Launch) (Z : State) (a0 : Array Value) (hw : ∀ d ∈ tables_1, d.before a0 Z = true) (ws : List Jvm.Cond) (u0 : Addr) (u1 : Addr) (h0 : Heap) (n0 : Nat) (Z0 : n0 ≤ h0.size) :
    MetFree l (⟨"java/util/Objects", "requireNonNull", "(Ljava/lang/Object;Ljava/lang/String;)Ljava/lang/Object;"⟩ : MethodName) (head1 (Jvm.Cond.code (⟨"java/util/Objects", "requireNonNull", "(Ljava/lang/Object;Ljava/lang/String;)Ljava/lang/Object;"⟩ : MethodName) jdk_31_method_11_code 2 (some (.object "java/lang/Object")) :: ws) ({ frames := 0, cells := 0, slots := 0, locals := 0 } : Room)) (fun a U => a = #[(.ref u0), (.ref u1)] ∧ Z.Warmed39 U.vm ∧ U.heap = h0) (fun _ _ _ _ _ => True) (fun _ U o U' => ∃ v L, o = .returned v ∧ Q9 Z u0 u1 h0 n0 v U'.heap L ∧ FrameEnd U o U' L ({ frames := 0, cells := 0, slots := 0, locals := 0 } : Room).cells ({ frames := 0, cells := 0, slots := 0, locals := 0 } : Room).slots) := by
  refine MetFree.of_bodySF (plainFor_of_name pn_java_util_Objects) hisR ?_
  intro p e s m args below meth c s₁ Bd hml0 hP hK
  obtain ⟨rfl, hZ, hh⟩ := hP
  have hx := Bd.exec
  have hby := Bd.bytes
  have hml : c.maxLocals = 2 := hml0
  have hown : s.vm.findClass "java/util/Objects" = some m.cls := findClass_of_methodNamed Bd.named
  have hnm := (name_of_methodNamed Bd.named Bd.method).1
  have X0 : Stand p l e ({ frames := 0, cells := 0, slots := 0, locals := 0 } : Room) s m #[(.ref u0), (.ref u1)] below meth c s₁ [] 0 0 := Stand.of_body Bd
  have e0 : s₁.heap = h0 := by rw [← hh, Bd.state]; rfl
  have N0 := Fr.nil n0
  have pre0 : ∀ t, Steps p.tables e below (s₁.setTop (mkF m 0 #[.val (.ref u0), .val (.ref u1)] [])) t → Steps p.tables e below (s₁.setTop (entryFrame m #[(.ref u0), (.ref u1)] 2)) t := fun t k => castTop (ef_9 m u0 u1) k
  obtain ⟨fs, hr, hrun, hended, hW, hsame⟩ := X0.leave (v := some (.ref u0)) (fun h => by rw [Bd.returns] at h; cases h)
  refine ⟨_, _, pre0 _ ?_, hrun, hended, _, _, rfl, ?_, ⟨_, rfl⟩, hW, hsame.mono (by decide) (by decide)⟩
  · show Steps p.tables e below (s₁.setTop (mkF m 0 #[.val (.ref u0), .val (.ref u1)] [])) _
    refine XS.aloadN X0.here hx rfl (hb hby d9_0) rfl rfl ?_
    show Steps p.tables e below (s₁.setTop (mkF m 1 #[.val (.ref u0), .val (.ref u1)] [(.ref u0)])) _
    refine XS.ifnonnullYes X0.here hx rfl (pc0 := 1) (pc' := 13) rfl (hb hby d9_1) rfl (by decide) (by decide) ?_
    show Steps p.tables e below (s₁.setTop (mkF m 13 #[.val (.ref u0), .val (.ref u1)] [])) _
    refine XS.aloadN X0.here hx rfl (hb hby d9_13) rfl rfl ?_
    show Steps p.tables e below (s₁.setTop (mkF m 14 #[.val (.ref u0), .val (.ref u1)] [(.ref u0)])) _
    jvm_step X0.here [X0.here.top, hx, (hb hby d9_14), X0.method', Bd.returns, Value.isRef, FieldType.isReference]
    first | (intro acts; rw [hr _ acts rfl rfl rfl]) | rw [hr _ _ rfl rfl rfl]
    exact Steps.refl _
  · show Q9 Z u0 u1 h0 n0 _ s₁.heap _
    rw [e0]
    exact ⟨rfl, N0, rfl⟩
theorem d7_0 : decode prog_74_method_10_code 0 = .ok (.aload_n 0, 1) := by decide +kernel
theorem d7_1 : decode prog_74_method_10_code 1 = .ok (.iload_n 1, 1) := by decide +kernel
theorem d7_2 : decode prog_74_method_10_code 2 = .ok (.putfield 19, 3) := by decide +kernel
theorem d7_5 : decode prog_74_method_10_code 5 = .ok (.return_, 1) := by decide +kernel
theorem ef_7 (m : MethodId) (u0 : Addr) (u1 : Int32) : entryFrame m #[(.ref u0), (.int u1)] 2 = mkF m 0 #[.val (.ref u0), .val (.int u1)] [] := by first | (simp [entryFrame, mkF, argsToLocals, Value.category]; done) | rfl
def Q7 (Z : State) (u0 : Addr) (u1 : Int32) (i_flags : Int32) (i_color : Int32) (i_style : Addr) (i_strokeWidth : UInt32) (i_strokeCap : Addr) (i_strokeJoin : Addr) (i_typeface : Addr) (i_textSize : UInt32) (i_textAlign : Addr) (h0 : Heap) (n0 : Nat) (v : Option Value) (h : Heap) (L : List Loc) : Prop := v = none ∧ Fr n0 L ∧ Keep h0 h [u0] ∧ Exa Z h u0 "com/example/decorum/decorum/graphics/Paint" ∧ Fld Z h u0 "com/example/decorum/decorum/graphics/Paint" "flags" "I" (.int i_flags) ∧ Fld Z h u0 "com/example/decorum/decorum/graphics/Paint" "color" "I" (.int u1) ∧ Fld Z h u0 "com/example/decorum/decorum/graphics/Paint" "style" "Lcom/example/decorum/decorum/graphics/Paint$Style;" (.ref i_style) ∧ Fld Z h u0 "com/example/decorum/decorum/graphics/Paint" "strokeWidth" "F" (.float i_strokeWidth) ∧ Fld Z h u0 "com/example/decorum/decorum/graphics/Paint" "strokeCap" "Lcom/example/decorum/decorum/graphics/Paint$Cap;" (.ref i_strokeCap) ∧ Fld Z h u0 "com/example/decorum/decorum/graphics/Paint" "strokeJoin" "Lcom/example/decorum/decorum/graphics/Paint$Join;" (.ref i_strokeJoin) ∧ Fld Z h u0 "com/example/decorum/decorum/graphics/Paint" "typeface" "Lcom/example/decorum/decorum/graphics/Typeface;" (.ref i_typeface) ∧ Fld Z h u0 "com/example/decorum/decorum/graphics/Paint" "textSize" "F" (.float i_textSize) ∧ Fld Z h u0 "com/example/decorum/decorum/graphics/Paint" "textAlign" "Lcom/example/decorum/decorum/graphics/Paint$Align;" (.ref i_textAlign)
set_option maxRecDepth 65536 in
set_option maxHeartbeats 40000000 in
theorem rm7 (l : Launch) (Z : State) (a0 : Array Value) (hw : ∀ d ∈ tables_1, d.before a0 Z = true) (ws : List Jvm.Cond) (u0 : Addr) (u1 : Int32) (i_flags : Int32) (i_color : Int32) (i_style : Addr) (i_strokeWidth : UInt32) (i_strokeCap : Addr) (i_strokeJoin : Addr) (i_typeface : Addr) (i_textSize : UInt32) (i_textAlign : Addr) (h0 : Heap) (n0 : Nat) (Z0 : n0 ≤ h0.size) (g_u0 : n0 ≤ u0) (E_u0 : Exa Z h0 u0 "com/example/decorum/decorum/graphics/Paint") (F_flags_u0 : Fld Z h0 u0 "com/example/decorum/decorum/graphics/Paint" "flags" "I" (.int i_flags)) (F_color_u0 : Fld Z h0 u0 "com/example/decorum/decorum/graphics/Paint" "color" "I" (.int i_color)) (F_style_u0 : Fld Z h0 u0 "com/example/decorum/decorum/graphics/Paint" "style" "Lcom/example/decorum/decorum/graphics/Paint$Style;" (.ref i_style)) (F_strokeWidth_u0 : Fld Z h0 u0 "com/example/decorum/decorum/graphics/Paint" "strokeWidth" "F" (.float i_strokeWidth)) (F_strokeCap_u0 : Fld Z h0 u0 "com/example/decorum/decorum/graphics/Paint" "strokeCap" "Lcom/example/decorum/decorum/graphics/Paint$Cap;" (.ref i_strokeCap)) (F_strokeJoin_u0 : Fld Z h0 u0 "com/example/decorum/decorum/graphics/Paint" "strokeJoin" "Lcom/example/decorum/decorum/graphics/Paint$Join;" (.ref i_strokeJoin)) (F_typeface_u0 : Fld Z h0 u0 "com/example/decorum/decorum/graphics/Paint" "typeface" "Lcom/example/decorum/decorum/graphics/Typeface;" (.ref i_typeface)) (F_textSize_u0 : Fld Z h0 u0 "com/example/decorum/decorum/graphics/Paint" "textSize" "F" (.float i_textSize)) (F_textAlign_u0 : Fld Z h0 u0 "com/example/decorum/decorum/graphics/Paint" "textAlign" "Lcom/example/decorum/decorum/graphics/Paint$Align;" (.ref i_textAlign)) :
    MetFree l (⟨"com/example/decorum/decorum/graphics/Paint", "setColor", "(I)V"⟩ : MethodName) (head1 (Jvm.Cond.code (⟨"com/example/decorum/decorum/graphics/Paint", "setColor", "(I)V"⟩ : MethodName) prog_74_method_10_code 2 none :: ws) ({ frames := 0, cells := 0, slots := 0, locals := 0 } : Room)) (fun a U => a = #[(.ref u0), (.int u1)] ∧ Z.Warmed39 U.vm ∧ U.heap = h0) (fun _ _ _ _ _ => True) (fun _ U o U' => ∃ v L, o = .returned v ∧ Q7 Z u0 u1 i_flags i_color i_style i_strokeWidth i_strokeCap i_strokeJoin i_typeface i_textSize i_textAlign h0 n0 v U'.heap L ∧ FrameEnd U o U' L ({ frames := 0, cells := 0, slots := 0, locals := 0 } : Room).cells ({ frames := 0, cells := 0, slots := 0, locals := 0 } : Room).slots) := by
  refine MetFree.of_bodySF (plainFor_of_name pn_com_example_decorum_decorum_graphics_Paint) hisR ?_
  intro p e s m args below meth c s₁ Bd hml0 hP hK
  obtain ⟨rfl, hZ, hh⟩ := hP
  have hx := Bd.exec
  have hby := Bd.bytes
  have hml : c.maxLocals = 2 := hml0
  have hown : s.vm.findClass "com/example/decorum/decorum/graphics/Paint" = some m.cls := findClass_of_methodNamed Bd.named
  have hnm := (name_of_methodNamed Bd.named Bd.method).1
  have X0 : Stand p l e ({ frames := 0, cells := 0, slots := 0, locals := 0 } : Room) s m #[(.ref u0), (.int u1)] below meth c s₁ [] 0 0 := Stand.of_body Bd
  have e0 : s₁.heap = h0 := by rw [← hh, Bd.state]; rfl
  have N0 := Fr.nil n0
  have pre0 : ∀ t, Steps p.tables e below (s₁.setTop (mkF m 0 #[.val (.ref u0), .val (.int u1)] [])) t → Steps p.tables e below (s₁.setTop (entryFrame m #[(.ref u0), (.int u1)] 2)) t := fun t k => castTop (ef_7 m u0 u1) k
  obtain ⟨T1, h1, X1, e1, W1, st1⟩ := putF X0 hx hZ hown (host := "") (Or.inl (hw _ (List.mem_of_getElem? (i := 38) rfl))) Via.refl e0 F_color_u0 E_u0 (Or.inl (hw _ (List.mem_of_getElem? (i := 39) rfl))) (hw _ (List.mem_of_getElem? (i := 27) rfl)) (ty := .int) (by decide) rfl rfl (g := (mkF m 2 #[.val (.ref u0), .val (.int u1)] [(.int u1), (.ref u0)])) rfl rfl (hb hby d7_2)
  have Fw1 := F_color_u0.same W1
  have N1 := Fr.snoc X1 N0 g_u0
  have Z1 : n0 ≤ h1.size := Nat.le_trans Z0 (Keep.of_wr W1).1
  have KK1 := (Keep.refl h0 [u0]).wr W1 (Or.inl (List.mem_of_getElem? (i := 0) rfl))
  obtain ⟨fs, hr, hrun, hended, hW, hsame⟩ := X1.leave (v := none) (fun _ => rfl)
  refine ⟨_, _, pre0 _ ?_, hrun, hended, _, _, rfl, ?_, ⟨_, rfl⟩, hW, hsame.mono (by decide) (by decide)⟩
  · show Steps p.tables e below (s₁.setTop (mkF m 0 #[.val (.ref u0), .val (.int u1)] [])) _
    refine XS.aloadN X0.here hx rfl (hb hby d7_0) rfl rfl ?_
    show Steps p.tables e below (s₁.setTop (mkF m 1 #[.val (.ref u0), .val (.int u1)] [(.ref u0)])) _
    refine XS.iloadN X0.here hx rfl (hb hby d7_1) rfl ?_
    show Steps p.tables e below (s₁.setTop (mkF m 2 #[.val (.ref u0), .val (.int u1)] [(.int u1), (.ref u0)])) _
    refine st1 _ ?_
    show Steps p.tables e below (T1.setTop (mkF m 5 #[.val (.ref u0), .val (.int u1)] [])) _
    exact X1.returnOut hx Bd.returns (hb hby d7_5) hr
  · show Q7 Z u0 u1 i_flags i_color i_style i_strokeWidth i_strokeCap i_strokeJoin i_typeface i_textSize i_textAlign h0 n0 _ T1.heap _
    rw [e1]
    exact ⟨rfl, N1, KK1, (E_u0.wr W1), (F_flags_u0.other W1 (Or.inr (slot_ne (Or.inl (hw _ (List.mem_of_getElem? (i := 36) rfl))) (Or.inl (hw _ (List.mem_of_getElem? (i := 39) rfl))) (by decide) (t := .int) (t' := .int) (by decide) (by decide)))), Fw1, (F_style_u0.other W1 (Or.inr (slot_ne (Or.inl (hw _ (List.mem_of_getElem? (i := 43) rfl))) (Or.inl (hw _ (List.mem_of_getElem? (i := 39) rfl))) (by decide) (t := (.object "com/example/decorum/decorum/graphics/Paint$Style")) (t' := .int) (by decide) (by decide)))), (F_strokeWidth_u0.other W1 (Or.inr (slot_ne (Or.inl (hw _ (List.mem_of_getElem? (i := 92) rfl))) (Or.inl (hw _ (List.mem_of_getElem? (i := 39) rfl))) (by decide) (t := .float) (t' := .int) (by decide) (by decide)))), (F_strokeCap_u0.other W1 (Or.inr (slot_ne (Or.inl (hw _ (List.mem_of_getElem? (i := 46) rfl))) (Or.inl (hw _ (List.mem_of_getElem? (i := 39) rfl))) (by decide) (t := (.object "com/example/decorum/decorum/graphics/Paint$Cap")) (t' := .int) (by decide) (by decide)))), (F_strokeJoin_u0.other W1 (Or.inr (slot_ne (Or.inl (hw _ (List.mem_of_getElem? (i := 49) rfl))) (Or.inl (hw _ (List.mem_of_getElem? (i := 39) rfl))) (by decide) (t := (.object "com/example/decorum/decorum/graphics/Paint$Join")) (t' := .int) (by decide) (by decide)))), (F_typeface_u0.other W1 (Or.inr (slot_ne (Or.inl (hw _ (List.mem_of_getElem? (i := 54) rfl))) (Or.inl (hw _ (List.mem_of_getElem? (i := 39) rfl))) (by decide) (t := (.object "com/example/decorum/decorum/graphics/Typeface")) (t' := .int) (by decide) (by decide)))), (F_textSize_u0.other W1 (Or.inr (slot_ne (Or.inl (hw _ (List.mem_of_getElem? (i := 57) rfl))) (Or.inl (hw _ (List.mem_of_getElem? (i := 39) rfl))) (by decide) (t := .float) (t' := .int) (by decide) (by decide)))), (F_textAlign_u0.other W1 (Or.inr (slot_ne (Or.inl (hw _ (List.mem_of_getElem? (i := 60) rfl))) (Or.inl (hw _ (List.mem_of_getElem? (i := 39) rfl))) (by decide) (t := (.object "com/example/decorum/decorum/graphics/Paint$Align")) (t' := .int) (by decide) (by decide))))⟩
theorem pd_19 : parseMethodDescriptor "(Ljava/lang/Object;Ljava/lang/String;)Ljava/lang/Object;" = some ⟨[(.object "java/lang/Object"), (.object "java/lang/String")], some (.object "java/lang/Object")⟩ := by decide +kernel
theorem d8_0 : decode prog_74_method_15_code 0 = .ok (.aload_n 0, 1) := by decide +kernel
theorem d8_1 : decode prog_74_method_15_code 1 = .ok (.aload_n 1, 1) := by decide +kernel
theorem d8_2 : decode prog_74_method_15_code 2 = .ok (.ldc 100, 2) := by decide +kernel
theorem d8_4 : decode prog_74_method_15_code 4 = .ok (.invokestatic 101, 3) := by decide +kernel
theorem d8_7 : decode prog_74_method_15_code 7 = .ok (.checkcast 23, 3) := by decide +kernel
theorem d8_10 : decode prog_74_method_15_code 10 = .ok (.putfield 28, 3) := by decide +kernel
theorem d8_13 : decode prog_74_method_15_code 13 = .ok (.return_, 1) := by decide +kernel
theorem ef_8 (m : MethodId) (u0 : Addr) (u1 : Addr) : entryFrame m #[(.ref u0), (.ref u1)] 2 = mkF m 0 #[.val (.ref u0), .val (.ref u1)] [] := by first | (simp [entryFrame, mkF, argsToLocals, Value.category]; done) | rfl
def Q8 (Z : State) (u0 : Addr) (u1 : Addr) (i_flags : Int32) (i_color : Int32) (i_style : Addr) (i_strokeWidth : UInt32) (i_strokeCap : Addr) (i_strokeJoin : Addr) (i_typeface : Addr) (i_textSize : UInt32) (i_textAlign : Addr) (h0 : Heap) (n0 : Nat) (v : Option Value) (h : Heap) (L : List Loc) : Prop := v = none ∧ Fr n0 L ∧ Keep h0 h [u0] ∧ Exa Z h u0 "com/example/decorum/decorum/graphics/Paint" ∧ Fld Z h u0 "com/example/decorum/decorum/graphics/Paint" "flags" "I" (.int i_flags) ∧ Fld Z h u0 "com/example/decorum/decorum/graphics/Paint" "color" "I" (.int i_color) ∧ Fld Z h u0 "com/example/decorum/decorum/graphics/Paint" "style" "Lcom/example/decorum/decorum/graphics/Paint$Style;" (.ref u1) ∧ Fld Z h u0 "com/example/decorum/decorum/graphics/Paint" "strokeWidth" "F" (.float i_strokeWidth) ∧ Fld Z h u0 "com/example/decorum/decorum/graphics/Paint" "strokeCap" "Lcom/example/decorum/decorum/graphics/Paint$Cap;" (.ref i_strokeCap) ∧ Fld Z h u0 "com/example/decorum/decorum/graphics/Paint" "strokeJoin" "Lcom/example/decorum/decorum/graphics/Paint$Join;" (.ref i_strokeJoin) ∧ Fld Z h u0 "com/example/decorum/decorum/graphics/Paint" "typeface" "Lcom/example/decorum/decorum/graphics/Typeface;" (.ref i_typeface) ∧ Fld Z h u0 "com/example/decorum/decorum/graphics/Paint" "textSize" "F" (.float i_textSize) ∧ Fld Z h u0 "com/example/decorum/decorum/graphics/Paint" "textAlign" "Lcom/example/decorum/decorum/graphics/Paint$Align;" (.ref i_textAlign)
set_option maxRecDepth 65536 in
set_option maxHeartbeats 40000000 in
theorem rm8 (l : Launch) (Z : State) (a0 : Array Value) (hw : ∀ d ∈ tables_1, d.before a0 Z = true) (ws : List Jvm.Cond) (u0 : Addr) (u1 : Addr) (i_flags : Int32) (i_color : Int32) (i_style : Addr) (i_strokeWidth : UInt32) (i_strokeCap : Addr) (i_strokeJoin : Addr) (i_typeface : Addr) (i_textSize : UInt32) (i_textAlign : Addr) (h0 : Heap) (n0 : Nat) (Z0 : n0 ≤ h0.size) (g_u0 : n0 ≤ u0) (E_u0 : Exa Z h0 u0 "com/example/decorum/decorum/graphics/Paint") (F_flags_u0 : Fld Z h0 u0 "com/example/decorum/decorum/graphics/Paint" "flags" "I" (.int i_flags)) (F_color_u0 : Fld Z h0 u0 "com/example/decorum/decorum/graphics/Paint" "color" "I" (.int i_color)) (F_style_u0 : Fld Z h0 u0 "com/example/decorum/decorum/graphics/Paint" "style" "Lcom/example/decorum/decorum/graphics/Paint$Style;" (.ref i_style)) (F_strokeWidth_u0 : Fld Z h0 u0 "com/example/decorum/decorum/graphics/Paint" "strokeWidth" "F" (.float i_strokeWidth)) (F_strokeCap_u0 : Fld Z h0 u0 "com/example/decorum/decorum/graphics/Paint" "strokeCap" "Lcom/example/decorum/decorum/graphics/Paint$Cap;" (.ref i_strokeCap)) (F_strokeJoin_u0 : Fld Z h0 u0 "com/example/decorum/decorum/graphics/Paint" "strokeJoin" "Lcom/example/decorum/decorum/graphics/Paint$Join;" (.ref i_strokeJoin)) (F_typeface_u0 : Fld Z h0 u0 "com/example/decorum/decorum/graphics/Paint" "typeface" "Lcom/example/decorum/decorum/graphics/Typeface;" (.ref i_typeface)) (F_textSize_u0 : Fld Z h0 u0 "com/example/decorum/decorum/graphics/Paint" "textSize" "F" (.float i_textSize)) (F_textAlign_u0 : Fld Z h0 u0 "com/example/decorum/decorum/graphics/Paint" "textAlign" "Lcom/example/decorum/decorum/graphics/Paint$Align;" (.ref i_textAlign)) (E_u1 : Exa Z h0 u1 "com/example/decorum/decorum/graphics/Paint$Style") :
    MetFree l (⟨"com/example/decorum/decorum/graphics/Paint", "setStyle", "(Lcom/example/decorum/decorum/graphics/Paint$Style;)V"⟩ : MethodName) (head1 (Jvm.Cond.code (⟨"com/example/decorum/decorum/graphics/Paint", "setStyle", "(Lcom/example/decorum/decorum/graphics/Paint$Style;)V"⟩ : MethodName) prog_74_method_15_code 2 none :: ws) ({ frames := 1, cells := 2, slots := 24, locals := 14 } : Room)) (fun a U => a = #[(.ref u0), (.ref u1)] ∧ Z.Warmed39 U.vm ∧ U.heap = h0 ∧ CHv Z EL U.vm h0) (fun _ _ _ _ _ => True) (fun _ U o U' => ∃ v L, o = .returned v ∧ Q8 Z u0 u1 i_flags i_color i_style i_strokeWidth i_strokeCap i_strokeJoin i_typeface i_textSize i_textAlign h0 n0 v U'.heap L ∧ CHr Z EL U.vm U.heap U'.vm U'.heap ∧ ReturnedEndW U o U' L ({ frames := 1, cells := 2, slots := 24, locals := 14 } : Room).cells ({ frames := 1, cells := 2, slots := 24, locals := 14 } : Room).slots) := by
  refine MetFree.of_bodySF (plainFor_of_name pn_com_example_decorum_decorum_graphics_Paint) hisR ?_
  intro p e s m args below meth c s₁ Bd hml0 hP hK
  obtain ⟨rfl, hZ, hh, hC0⟩ := hP
  replace hZ : Z.Warmed39 (s.setVm s.vm).vm := hZ
  have hx := Bd.exec
  have hby := Bd.bytes
  have hml : c.maxLocals = 2 := hml0
  have hown : (s.setVm s.vm).vm.findClass "com/example/decorum/decorum/graphics/Paint" = some m.cls := findClass_of_methodNamed Bd.named
  have hnm := (name_of_methodNamed Bd.named Bd.method).1
  have X0 : Stand p l e ({ frames := 1, cells := 2, slots := 24, locals := 14 } : Room) (s.setVm s.vm) m #[(.ref u0), (.ref u1)] below meth c s₁ [] 0 0 := Stand.of_body Bd
  have e0 : s₁.heap = h0 := by rw [← hh, Bd.state]; rfl
  have N0 := Fr.nil n0
  have pre0 : ∀ t, Steps p.tables e below (s₁.setTop (mkF m 0 #[.val (.ref u0), .val (.ref u1)] [])) t → Steps p.tables e below (s₁.setTop (entryFrame m #[(.ref u0), (.ref u1)] 2)) t := fun t k => castTop (ef_8 m u0 u1) k
  have hS0 : s.Since s.vm s.heap.size := own_since s
  have hk0 : s.heap.size ≤ h0.size := Nat.le_of_eq (congrArg Array.size hh)
  have C0 : CHr Z EL s.vm h0 s.vm h0 := CHr.refl hC0
  have wS : ∀ d ∈ Bundle.stringAtoms, d.before a0 Z = true := fun d hd => hw d ((by decide +kernel : ∀ d ∈ Bundle.stringAtoms, d ∈ tables_1) d hd)
  obtain ⟨s1, T1, h1, q1, X1, e1, E1, hS1, hk1, hZ, hown, Cq1, Lt1, st1⟩ := ldcOH X0 hx hZ hown (hw _ (List.mem_of_getElem? (i := 71) rfl)) wS e0 hS0 hk0 (hEL hw) C0.1 (g := (mkF m 2 #[.val (.ref u0), .val (.ref u1)] [(.ref u1), (.ref u0)])) rfl (hb hby d8_2) (n := 20) (by decide +kernel) (by decide) (by decide) (by decide)
  have Z1 : n0 ≤ h1.size := Nat.le_trans Z0 E1.1
  have KK1 := (Keep.refl h0 [u0]).ext E1
  have C1 := C0.trans Cq1
  obtain ⟨_, _, ⟨T2, L2, k2, n2⟩, -, X2, ⟨Lc2, hQ2, l2, y2, z2⟩, st2⟩ := Jvm.LawKit.callS X1 hx (y := (⟨"java/util/Objects", "requireNonNull", "(Ljava/lang/Object;Ljava/lang/String;)Ljava/lang/Object;"⟩ : MethodName)) hown (mvT hZ (hw _ (List.mem_of_getElem? (i := 79) rfl))) (mvT hZ (hw _ (List.mem_of_getElem? (i := 80) rfl))) (mvT hZ (hw _ (List.mem_of_getElem? (i := 81) rfl))) (mvT hZ (hw _ (List.mem_of_getElem? (i := 82) rfl))) (by decide) (backOf (W := 1) (rm9 l Z a0 hw [] u1 s1 h1 n0 Z1 ) hZ (hw _ (List.mem_of_getElem? (i := 82) rfl)) (hw _ (List.mem_of_getElem? (i := 81) rfl)) (by decide) (by decide)) (g := (mkF m 4 #[.val (.ref u0), .val (.ref u1)] [(.ref s1), (.ref u1), (.ref u0)])) rfl (by rw [hml]; rfl) (argsL := [(.ref u1), (.ref s1)]) (rest := [(.ref u0)]) (lenOf pd_19 rfl) rfl (by show 2 * 0 + _ ≤ _; exact Nat.le_of_eq rfl) (hb hby d8_4) (fun _ _ => ⟨rfl, e1, (by decide : 2 + 0 ≤ _), (by decide : 24 + 0 ≤ _)⟩)
  dsimp only [Pt.U, Pt.locs, Pt.cells, Pt.slots] at X2 l2 y2 z2 st2 hQ2
  replace y2 : k2 = 2 := y2
  replace z2 : n2 = 24 := z2
  rw [y2, z2] at X2
  obtain ⟨rfl, N2q, e2⟩ := hQ2
  have N2 : Fr n0 L2 := l2 ▸ Fr.app N0 N2q
  obtain ⟨T3, X3, e3, st3⟩ := castY X2 hx hZ hown (hw _ (List.mem_of_getElem? (i := 83) rfl)) e2 (Ins.self (E_u1.ext E1)) (g := (mkF m 7 #[.val (.ref u0), .val (.ref u1)] [(.ref u1), (.ref u0)])) rfl rfl (hb hby d8_7)
  obtain ⟨T4, h4, X4, e4, W4, st4⟩ := putF X3 hx hZ hown (host := "") (Or.inl (hw _ (List.mem_of_getElem? (i := 42) rfl))) Via.refl e3 (F_style_u0.ext E1) (E_u0.ext E1) (Or.inl (hw _ (List.mem_of_getElem? (i := 43) rfl))) (hw _ (List.mem_of_getElem? (i := 27) rfl)) (ty := (.object "com/example/decorum/decorum/graphics/Paint$Style")) (by decide) rfl rfl (g := (mkF m 10 #[.val (.ref u0), .val (.ref u1)] [(.ref u1), (.ref u0)])) rfl rfl (hb hby d8_10)
  have Fw4 := (F_style_u0.ext E1).same W4
  have N4 := Fr.snoc X4 N2 g_u0
  have Z4 : n0 ≤ h4.size := Nat.le_trans Z1 (Keep.of_wr W4).1
  have KK4 := KK1.wr W4 (Or.inl (List.mem_of_getElem? (i := 0) rfl))
  have C4 := C1.trans (CHr.wr W4 (Safe.exa hZ.alike (E_u0.ext E1) (by decide) (by decide)) C1.1)
  have hk4 := Nat.le_trans hk1 (Keep.of_wr W4).1
  obtain ⟨fs, hr, hrun, hended, hE⟩ := X4.leaveW hS1 (Nat.le_trans hk4 (Nat.le_of_eq (congrArg Array.size e4).symm)) (v := none) (fun _ => rfl)
  refine ⟨_, _, pre0 _ ?_, hrun, hended, _, _, rfl, ?_, ?_, own_monoW hE (by decide) (by decide)⟩
  · show Steps p.tables e below (s₁.setTop (mkF m 0 #[.val (.ref u0), .val (.ref u1)] [])) _
    refine XS.aloadN X0.here hx rfl (hb hby d8_0) rfl rfl ?_
    show Steps p.tables e below (s₁.setTop (mkF m 1 #[.val (.ref u0), .val (.ref u1)] [(.ref u0)])) _
    refine XS.aloadN X0.here hx rfl (hb hby d8_1) rfl rfl ?_
    show Steps p.tables e below (s₁.setTop (mkF m 2 #[.val (.ref u0), .val (.ref u1)] [(.ref u1), (.ref u0)])) _
    refine st1 _ ?_
    show Steps p.tables e below (T1.setTop (mkF m 4 #[.val (.ref u0), .val (.ref u1)] [(.ref s1), (.ref u1), (.ref u0)])) _
    refine st2 _ ?_
    show Steps p.tables e below (T2.setTop (mkF m 7 #[.val (.ref u0), .val (.ref u1)] [(.ref u1), (.ref u0)])) _
    refine st3 _ ?_
    show Steps p.tables e below (T3.setTop (mkF m 10 #[.val (.ref u0), .val (.ref u1)] [(.ref u1), (.ref u0)])) _
    refine st4 _ ?_
    show Steps p.tables e below (T4.setTop (mkF m 13 #[.val (.ref u0), .val (.ref u1)] [])) _
    exact X4.returnOut hx Bd.returns (hb hby d8_13) hr
  · show Q8 Z u0 u1 i_flags i_color i_style i_strokeWidth i_strokeCap i_strokeJoin i_typeface i_textSize i_textAlign h0 n0 _ T4.heap _
    rw [e4]
    exact ⟨rfl, N4, KK4, ((E_u0.ext E1).wr W4), ((F_flags_u0.ext E1).other W4 (Or.inr (slot_ne (Or.inl (hw _ (List.mem_of_getElem? (i := 36) rfl))) (Or.inl (hw _ (List.mem_of_getElem? (i := 43) rfl))) (by decide) (t := .int) (t' := (.object "com/example/decorum/decorum/graphics/Paint$Style")) (by decide) (by decide)))), ((F_color_u0.ext E1).other W4 (Or.inr (slot_ne (Or.inl (hw _ (List.mem_of_getElem? (i := 39) rfl))) (Or.inl (hw _ (List.mem_of_getElem? (i := 43) rfl))) (by decide) (t := .int) (t' := (.object "com/example/decorum/decorum/graphics/Paint$Style")) (by decide) (by decide)))), Fw4, ((F_strokeWidth_u0.ext E1).other W4 (Or.inr (slot_ne (Or.inl (hw _ (List.mem_of_getElem? (i := 92) rfl))) (Or.inl (hw _ (List.mem_of_getElem? (i := 43) rfl))) (by decide) (t := .float) (t' := (.object "com/example/decorum/decorum/graphics/Paint$Style")) (by decide) (by decide)))), ((F_strokeCap_u0.ext E1).other W4 (Or.inr (slot_ne (Or.inl (hw _ (List.mem_of_getElem? (i := 46) rfl))) (Or.inl (hw _ (List.mem_of_getElem? (i := 43) rfl))) (by decide) (t := (.object "com/example/decorum/decorum/graphics/Paint$Cap")) (t' := (.object "com/example/decorum/decorum/graphics/Paint$Style")) (by decide) (by decide)))), ((F_strokeJoin_u0.ext E1).other W4 (Or.inr (slot_ne (Or.inl (hw _ (List.mem_of_getElem? (i := 49) rfl))) (Or.inl (hw _ (List.mem_of_getElem? (i := 43) rfl))) (by decide) (t := (.object "com/example/decorum/decorum/graphics/Paint$Join")) (t' := (.object "com/example/decorum/decorum/graphics/Paint$Style")) (by decide) (by decide)))), ((F_typeface_u0.ext E1).other W4 (Or.inr (slot_ne (Or.inl (hw _ (List.mem_of_getElem? (i := 54) rfl))) (Or.inl (hw _ (List.mem_of_getElem? (i := 43) rfl))) (by decide) (t := (.object "com/example/decorum/decorum/graphics/Typeface")) (t' := (.object "com/example/decorum/decorum/graphics/Paint$Style")) (by decide) (by decide)))), ((F_textSize_u0.ext E1).other W4 (Or.inr (slot_ne (Or.inl (hw _ (List.mem_of_getElem? (i := 57) rfl))) (Or.inl (hw _ (List.mem_of_getElem? (i := 43) rfl))) (by decide) (t := .float) (t' := (.object "com/example/decorum/decorum/graphics/Paint$Style")) (by decide) (by decide)))), ((F_textAlign_u0.ext E1).other W4 (Or.inr (slot_ne (Or.inl (hw _ (List.mem_of_getElem? (i := 60) rfl))) (Or.inl (hw _ (List.mem_of_getElem? (i := 43) rfl))) (by decide) (t := (.object "com/example/decorum/decorum/graphics/Paint$Align")) (t' := (.object "com/example/decorum/decorum/graphics/Paint$Style")) (by decide) (by decide))))⟩
  · show CHr Z EL s.vm s.heap T4.vm T4.heap
    rw [e4]
    rw [hh]
    exact C4.trans (CHv.at X4 hZ (hEL hw) C4.1)
theorem d11_0 : decode prog_74_method_19_code 0 = .ok (.aload_n 0, 1) := by decide +kernel
theorem d11_1 : decode prog_74_method_19_code 1 = .ok (.aload_n 1, 1) := by decide +kernel
theorem d11_2 : decode prog_74_method_19_code 2 = .ok (.ldc 110, 2) := by decide +kernel
theorem d11_4 : decode prog_74_method_19_code 4 = .ok (.invokestatic 101, 3) := by decide +kernel
theorem d11_7 : decode prog_74_method_19_code 7 = .ok (.checkcast 32, 3) := by decide +kernel
theorem d11_10 : decode prog_74_method_19_code 10 = .ok (.putfield 37, 3) := by decide +kernel
theorem d11_13 : decode prog_74_method_19_code 13 = .ok (.return_, 1) := by decide +kernel
theorem ef_11 (m : MethodId) (u0 : Addr) (u1 : Addr) : entryFrame m #[(.ref u0), (.ref u1)] 2 = mkF m 0 #[.val (.ref u0), .val (.ref u1)] [] := by first | (simp [entryFrame, mkF, argsToLocals, Value.category]; done) | rfl
def Q11 (Z : State) (u0 : Addr) (u1 : Addr) (i_flags : Int32) (i_color : Int32) (i_style : Addr) (i_strokeWidth : UInt32) (i_strokeCap : Addr) (i_strokeJoin : Addr) (i_typeface : Addr) (i_textSize : UInt32) (i_textAlign : Addr) (h0 : Heap) (n0 : Nat) (v : Option Value) (h : Heap) (L : List Loc) : Prop := v = none ∧ Fr n0 L ∧ Keep h0 h [u0] ∧ Exa Z h u0 "com/example/decorum/decorum/graphics/Paint" ∧ Fld Z h u0 "com/example/decorum/decorum/graphics/Paint" "flags" "I" (.int i_flags) ∧ Fld Z h u0 "com/example/decorum/decorum/graphics/Paint" "color" "I" (.int i_color) ∧ Fld Z h u0 "com/example/decorum/decorum/graphics/Paint" "style" "Lcom/example/decorum/decorum/graphics/Paint$Style;" (.ref i_style) ∧ Fld Z h u0 "com/example/decorum/decorum/graphics/Paint" "strokeWidth" "F" (.float i_strokeWidth) ∧ Fld Z h u0 "com/example/decorum/decorum/graphics/Paint" "strokeCap" "Lcom/example/decorum/decorum/graphics/Paint$Cap;" (.ref u1) ∧ Fld Z h u0 "com/example/decorum/decorum/graphics/Paint" "strokeJoin" "Lcom/example/decorum/decorum/graphics/Paint$Join;" (.ref i_strokeJoin) ∧ Fld Z h u0 "com/example/decorum/decorum/graphics/Paint" "typeface" "Lcom/example/decorum/decorum/graphics/Typeface;" (.ref i_typeface) ∧ Fld Z h u0 "com/example/decorum/decorum/graphics/Paint" "textSize" "F" (.float i_textSize) ∧ Fld Z h u0 "com/example/decorum/decorum/graphics/Paint" "textAlign" "Lcom/example/decorum/decorum/graphics/Paint$Align;" (.ref i_textAlign)
set_option maxRecDepth 65536 in
set_option maxHeartbeats 40000000 in
theorem rm11 (l : Launch) (Z : State) (a0 : Array Value) (hw : ∀ d ∈ tables_1, d.before a0 Z = true) (ws : List Jvm.Cond) (u0 : Addr) (u1 : Addr) (i_flags : Int32) (i_color : Int32) (i_style : Addr) (i_strokeWidth : UInt32) (i_strokeCap : Addr) (i_strokeJoin : Addr) (i_typeface : Addr) (i_textSize : UInt32) (i_textAlign : Addr) (h0 : Heap) (n0 : Nat) (Z0 : n0 ≤ h0.size) (g_u0 : n0 ≤ u0) (E_u0 : Exa Z h0 u0 "com/example/decorum/decorum/graphics/Paint") (F_flags_u0 : Fld Z h0 u0 "com/example/decorum/decorum/graphics/Paint" "flags" "I" (.int i_flags)) (F_color_u0 : Fld Z h0 u0 "com/example/decorum/decorum/graphics/Paint" "color" "I" (.int i_color)) (F_style_u0 : Fld Z h0 u0 "com/example/decorum/decorum/graphics/Paint" "style" "Lcom/example/decorum/decorum/graphics/Paint$Style;" (.ref i_style)) (F_strokeWidth_u0 : Fld Z h0 u0 "com/example/decorum/decorum/graphics/Paint" "strokeWidth" "F" (.float i_strokeWidth)) (F_strokeCap_u0 : Fld Z h0 u0 "com/example/decorum/decorum/graphics/Paint" "strokeCap" "Lcom/example/decorum/decorum/graphics/Paint$Cap;" (.ref i_strokeCap)) (F_strokeJoin_u0 : Fld Z h0 u0 "com/example/decorum/decorum/graphics/Paint" "strokeJoin" "Lcom/example/decorum/decorum/graphics/Paint$Join;" (.ref i_strokeJoin)) (F_typeface_u0 : Fld Z h0 u0 "com/example/decorum/decorum/graphics/Paint" "typeface" "Lcom/example/decorum/decorum/graphics/Typeface;" (.ref i_typeface)) (F_textSize_u0 : Fld Z h0 u0 "com/example/decorum/decorum/graphics/Paint" "textSize" "F" (.float i_textSize)) (F_textAlign_u0 : Fld Z h0 u0 "com/example/decorum/decorum/graphics/Paint" "textAlign" "Lcom/example/decorum/decorum/graphics/Paint$Align;" (.ref i_textAlign)) (E_u1 : Exa Z h0 u1 "com/example/decorum/decorum/graphics/Paint$Cap") :
    MetFree l (⟨"com/example/decorum/decorum/graphics/Paint", "setStrokeCap", "(Lcom/example/decorum/decorum/graphics/Paint$Cap;)V"⟩ : MethodName) (head1 (Jvm.Cond.code (⟨"com/example/decorum/decorum/graphics/Paint", "setStrokeCap", "(Lcom/example/decorum/decorum/graphics/Paint$Cap;)V"⟩ : MethodName) prog_74_method_19_code 2 none :: ws) ({ frames := 1, cells := 2, slots := 16, locals := 14 } : Room)) (fun a U => a = #[(.ref u0), (.ref u1)] ∧ Z.Warmed39 U.vm ∧ U.heap = h0 ∧ CHv Z EL U.vm h0) (fun _ _ _ _ _ => True) (fun _ U o U' => ∃ v L, o = .returned v ∧ Q11 Z u0 u1 i_flags i_color i_style i_strokeWidth i_strokeCap i_strokeJoin i_typeface i_textSize i_textAlign h0 n0 v U'.heap L ∧ CHr Z EL U.vm U.heap U'.vm U'.heap ∧ ReturnedEndW U o U' L ({ frames := 1, cells := 2, slots := 16, locals := 14 } : Room).cells ({ frames := 1, cells := 2, slots := 16, locals := 14 } : Room).slots) := by
  refine MetFree.of_bodySF (plainFor_of_name pn_com_example_decorum_decorum_graphics_Paint) hisR ?_
  intro p e s m args below meth c s₁ Bd hml0 hP hK
  obtain ⟨rfl, hZ, hh, hC0⟩ := hP
  replace hZ : Z.Warmed39 (s.setVm s.vm).vm := hZ
  have hx := Bd.exec
  have hby := Bd.bytes
  have hml : c.maxLocals = 2 := hml0
  have hown : (s.setVm s.vm).vm.findClass "com/example/decorum/decorum/graphics/Paint" = some m.cls := findClass_of_methodNamed Bd.named
  have hnm := (name_of_methodNamed Bd.named Bd.method).1
  have X0 : Stand p l e ({ frames := 1, cells := 2, slots := 16, locals := 14 } : Room) (s.setVm s.vm) m #[(.ref u0), (.ref u1)] below meth c s₁ [] 0 0 := Stand.of_body Bd
  have e0 : s₁.heap = h0 := by rw [← hh, Bd.state]; rfl
  have N0 := Fr.nil n0
  have pre0 : ∀ t, Steps p.tables e below (s₁.setTop (mkF m 0 #[.val (.ref u0), .val (.ref u1)] [])) t → Steps p.tables e below (s₁.setTop (entryFrame m #[(.ref u0), (.ref u1)] 2)) t := fun t k => castTop (ef_11 m u0 u1) k
  have hS0 : s.Since s.vm s.heap.size := own_since s
  have hk0 : s.heap.size ≤ h0.size := Nat.le_of_eq (congrArg Array.size hh)
  have C0 : CHr Z EL s.vm h0 s.vm h0 := CHr.refl hC0
  have wS : ∀ d ∈ Bundle.stringAtoms, d.before a0 Z = true := fun d hd => hw d ((by decide +kernel : ∀ d ∈ Bundle.stringAtoms, d ∈ tables_1) d hd)
  obtain ⟨s1, T1, h1, q1, X1, e1, E1, hS1, hk1, hZ, hown, Cq1, Lt1, st1⟩ := ldcOH X0 hx hZ hown (hw _ (List.mem_of_getElem? (i := 98) rfl)) wS e0 hS0 hk0 (hEL hw) C0.1 (g := (mkF m 2 #[.val (.ref u0), .val (.ref u1)] [(.ref u1), (.ref u0)])) rfl (hb hby d11_2) (n := 12) (by decide +kernel) (by decide) (by decide) (by decide)
  have Z1 : n0 ≤ h1.size := Nat.le_trans Z0 E1.1
  have KK1 := (Keep.refl h0 [u0]).ext E1
  have C1 := C0.trans Cq1
  obtain ⟨_, _, ⟨T2, L2, k2, n2⟩, -, X2, ⟨Lc2, hQ2, l2, y2, z2⟩, st2⟩ := Jvm.LawKit.callS X1 hx (y := (⟨"java/util/Objects", "requireNonNull", "(Ljava/lang/Object;Ljava/lang/String;)Ljava/lang/Object;"⟩ : MethodName)) hown (mvT hZ (hw _ (List.mem_of_getElem? (i := 79) rfl))) (mvT hZ (hw _ (List.mem_of_getElem? (i := 80) rfl))) (mvT hZ (hw _ (List.mem_of_getElem? (i := 81) rfl))) (mvT hZ (hw _ (List.mem_of_getElem? (i := 82) rfl))) (by decide) (backOf (W := 1) (rm9 l Z a0 hw [] u1 s1 h1 n0 Z1 ) hZ (hw _ (List.mem_of_getElem? (i := 82) rfl)) (hw _ (List.mem_of_getElem? (i := 81) rfl)) (by decide) (by decide)) (g := (mkF m 4 #[.val (.ref u0), .val (.ref u1)] [(.ref s1), (.ref u1), (.ref u0)])) rfl (by rw [hml]; rfl) (argsL := [(.ref u1), (.ref s1)]) (rest := [(.ref u0)]) (lenOf pd_19 rfl) rfl (by show 2 * 0 + _ ≤ _; exact Nat.le_of_eq rfl) (hb hby d11_4) (fun _ _ => ⟨rfl, e1, (by decide : 2 + 0 ≤ _), (by decide : 16 + 0 ≤ _)⟩)
  dsimp only [Pt.U, Pt.locs, Pt.cells, Pt.slots] at X2 l2 y2 z2 st2 hQ2
  replace y2 : k2 = 2 := y2
  replace z2 : n2 = 16 := z2
  rw [y2, z2] at X2
  obtain ⟨rfl, N2q, e2⟩ := hQ2
  have N2 : Fr n0 L2 := l2 ▸ Fr.app N0 N2q
  obtain ⟨T3, X3, e3, st3⟩ := castY X2 hx hZ hown (hw _ (List.mem_of_getElem? (i := 99) rfl)) e2 (Ins.self (E_u1.ext E1)) (g := (mkF m 7 #[.val (.ref u0), .val (.ref u1)] [(.ref u1), (.ref u0)])) rfl rfl (hb hby d11_7)
  obtain ⟨T4, h4, X4, e4, W4, st4⟩ := putF X3 hx hZ hown (host := "") (Or.inl (hw _ (List.mem_of_getElem? (i := 45) rfl))) Via.refl e3 (F_strokeCap_u0.ext E1) (E_u0.ext E1) (Or.inl (hw _ (List.mem_of_getElem? (i := 46) rfl))) (hw _ (List.mem_of_getElem? (i := 27) rfl)) (ty := (.object "com/example/decorum/decorum/graphics/Paint$Cap")) (by decide) rfl rfl (g := (mkF m 10 #[.val (.ref u0), .val (.ref u1)] [(.ref u1), (.ref u0)])) rfl rfl (hb hby d11_10)
  have Fw4 := (F_strokeCap_u0.ext E1).same W4
  have N4 := Fr.snoc X4 N2 g_u0
  have Z4 : n0 ≤ h4.size := Nat.le_trans Z1 (Keep.of_wr W4).1
  have KK4 := KK1.wr W4 (Or.inl (List.mem_of_getElem? (i := 0) rfl))
  have C4 := C1.trans (CHr.wr W4 (Safe.exa hZ.alike (E_u0.ext E1) (by decide) (by decide)) C1.1)
  have hk4 := Nat.le_trans hk1 (Keep.of_wr W4).1
  obtain ⟨fs, hr, hrun, hended, hE⟩ := X4.leaveW hS1 (Nat.le_trans hk4 (Nat.le_of_eq (congrArg Array.size e4).symm)) (v := none) (fun _ => rfl)
  refine ⟨_, _, pre0 _ ?_, hrun, hended, _, _, rfl, ?_, ?_, own_monoW hE (by decide) (by decide)⟩
  · show Steps p.tables e below (s₁.setTop (mkF m 0 #[.val (.ref u0), .val (.ref u1)] [])) _
    refine XS.aloadN X0.here hx rfl (hb hby d11_0) rfl rfl ?_
    show Steps p.tables e below (s₁.setTop (mkF m 1 #[.val (.ref u0), .val (.ref u1)] [(.ref u0)])) _
    refine XS.aloadN X0.here hx rfl (hb hby d11_1) rfl rfl ?_
    show Steps p.tables e below (s₁.setTop (mkF m 2 #[.val (.ref u0), .val (.ref u1)] [(.ref u1), (.ref u0)])) _
    refine st1 _ ?_
    show Steps p.tables e below (T1.setTop (mkF m 4 #[.val (.ref u0), .val (.ref u1)] [(.ref s1), (.ref u1), (.ref u0)])) _
    refine st2 _ ?_
    show Steps p.tables e below (T2.setTop (mkF m 7 #[.val (.ref u0), .val (.ref u1)] [(.ref u1), (.ref u0)])) _
    refine st3 _ ?_
    show Steps p.tables e below (T3.setTop (mkF m 10 #[.val (.ref u0), .val (.ref u1)] [(.ref u1), (.ref u0)])) _
    refine st4 _ ?_
    show Steps p.tables e below (T4.setTop (mkF m 13 #[.val (.ref u0), .val (.ref u1)] [])) _
    exact X4.returnOut hx Bd.returns (hb hby d11_13) hr
  · show Q11 Z u0 u1 i_flags i_color i_style i_strokeWidth i_strokeCap i_strokeJoin i_typeface i_textSize i_textAlign h0 n0 _ T4.heap _
    rw [e4]
    exact ⟨rfl, N4, KK4, ((E_u0.ext E1).wr W4), ((F_flags_u0.ext E1).other W4 (Or.inr (slot_ne (Or.inl (hw _ (List.mem_of_getElem? (i := 36) rfl))) (Or.inl (hw _ (List.mem_of_getElem? (i := 46) rfl))) (by decide) (t := .int) (t' := (.object "com/example/decorum/decorum/graphics/Paint$Cap")) (by decide) (by decide)))), ((F_color_u0.ext E1).other W4 (Or.inr (slot_ne (Or.inl (hw _ (List.mem_of_getElem? (i := 39) rfl))) (Or.inl (hw _ (List.mem_of_getElem? (i := 46) rfl))) (by decide) (t := .int) (t' := (.object "com/example/decorum/decorum/graphics/Paint$Cap")) (by decide) (by decide)))), ((F_style_u0.ext E1).other W4 (Or.inr (slot_ne (Or.inl (hw _ (List.mem_of_getElem? (i := 43) rfl))) (Or.inl (hw _ (List.mem_of_getElem? (i := 46) rfl))) (by decide) (t := (.object "com/example/decorum/decorum/graphics/Paint$Style")) (t' := (.object "com/example/decorum/decorum/graphics/Paint$Cap")) (by decide) (by decide)))), ((F_strokeWidth_u0.ext E1).other W4 (Or.inr (slot_ne (Or.inl (hw _ (List.mem_of_getElem? (i := 92) rfl))) (Or.inl (hw _ (List.mem_of_getElem? (i := 46) rfl))) (by decide) (t := .float) (t' := (.object "com/example/decorum/decorum/graphics/Paint$Cap")) (by decide) (by decide)))), Fw4, ((F_strokeJoin_u0.ext E1).other W4 (Or.inr (slot_ne (Or.inl (hw _ (List.mem_of_getElem? (i := 49) rfl))) (Or.inl (hw _ (List.mem_of_getElem? (i := 46) rfl))) (by decide) (t := (.object "com/example/decorum/decorum/graphics/Paint$Join")) (t' := (.object "com/example/decorum/decorum/graphics/Paint$Cap")) (by decide) (by decide)))), ((F_typeface_u0.ext E1).other W4 (Or.inr (slot_ne (Or.inl (hw _ (List.mem_of_getElem? (i := 54) rfl))) (Or.inl (hw _ (List.mem_of_getElem? (i := 46) rfl))) (by decide) (t := (.object "com/example/decorum/decorum/graphics/Typeface")) (t' := (.object "com/example/decorum/decorum/graphics/Paint$Cap")) (by decide) (by decide)))), ((F_textSize_u0.ext E1).other W4 (Or.inr (slot_ne (Or.inl (hw _ (List.mem_of_getElem? (i := 57) rfl))) (Or.inl (hw _ (List.mem_of_getElem? (i := 46) rfl))) (by decide) (t := .float) (t' := (.object "com/example/decorum/decorum/graphics/Paint$Cap")) (by decide) (by decide)))), ((F_textAlign_u0.ext E1).other W4 (Or.inr (slot_ne (Or.inl (hw _ (List.mem_of_getElem? (i := 60) rfl))) (Or.inl (hw _ (List.mem_of_getElem? (i := 46) rfl))) (by decide) (t := (.object "com/example/decorum/decorum/graphics/Paint$Align")) (t' := (.object "com/example/decorum/decorum/graphics/Paint$Cap")) (by decide) (by decide))))⟩
  · show CHr Z EL s.vm s.heap T4.vm T4.heap
    rw [e4]
    rw [hh]
    exact C4.trans (CHv.at X4 hZ (hEL hw) C4.1)
theorem d12_0 : decode prog_74_method_21_code 0 = .ok (.aload_n 0, 1) := by decide +kernel
theorem d12_1 : decode prog_74_method_21_code 1 = .ok (.aload_n 1, 1) := by decide +kernel
theorem d12_2 : decode prog_74_method_21_code 2 = .ok (.ldc 112, 2) := by decide +kernel
theorem d12_4 : decode prog_74_method_21_code 4 = .ok (.invokestatic 101, 3) := by decide +kernel
theorem d12_7 : decode prog_74_method_21_code 7 = .ok (.checkcast 41, 3) := by decide +kernel
theorem d12_10 : decode prog_74_method_21_code 10 = .ok (.putfield 46, 3) := by decide +kernel
theorem d12_13 : decode prog_74_method_21_code 13 = .ok (.return_, 1) := by decide +kernel
theorem ef_12 (m : MethodId) (u0 : Addr) (u1 : Addr) : entryFrame m #[(.ref u0), (.ref u1)] 2 = mkF m 0 #[.val (.ref u0), .val (.ref u1)] [] := by first | (simp [entryFrame, mkF, argsToLocals, Value.category]; done) | rfl
def Q12 (Z : State) (u0 : Addr) (u1 : Addr) (i_flags : Int32) (i_color : Int32) (i_style : Addr) (i_strokeWidth : UInt32) (i_strokeCap : Addr) (i_strokeJoin : Addr) (i_typeface : Addr) (i_textSize : UInt32) (i_textAlign : Addr) (h0 : Heap) (n0 : Nat) (v : Option Value) (h : Heap) (L : List Loc) : Prop := v = none ∧ Fr n0 L ∧ Keep h0 h [u0] ∧ Exa Z h u0 "com/example/decorum/decorum/graphics/Paint" ∧ Fld Z h u0 "com/example/decorum/decorum/graphics/Paint" "flags" "I" (.int i_flags) ∧ Fld Z h u0 "com/example/decorum/decorum/graphics/Paint" "color" "I" (.int i_color) ∧ Fld Z h u0 "com/example/decorum/decorum/graphics/Paint" "style" "Lcom/example/decorum/decorum/graphics/Paint$Style;" (.ref i_style) ∧ Fld Z h u0 "com/example/decorum/decorum/graphics/Paint" "strokeWidth" "F" (.float i_strokeWidth) ∧ Fld Z h u0 "com/example/decorum/decorum/graphics/Paint" "strokeCap" "Lcom/example/decorum/decorum/graphics/Paint$Cap;" (.ref i_strokeCap) ∧ Fld Z h u0 "com/example/decorum/decorum/graphics/Paint" "strokeJoin" "Lcom/example/decorum/decorum/graphics/Paint$Join;" (.ref u1) ∧ Fld Z h u0 "com/example/decorum/decorum/graphics/Paint" "typeface" "Lcom/example/decorum/decorum/graphics/Typeface;" (.ref i_typeface) ∧ Fld Z h u0 "com/example/decorum/decorum/graphics/Paint" "textSize" "F" (.float i_textSize) ∧ Fld Z h u0 "com/example/decorum/decorum/graphics/Paint" "textAlign" "Lcom/example/decorum/decorum/graphics/Paint$Align;" (.ref i_textAlign)
set_option maxRecDepth 65536 in
set_option maxHeartbeats 40000000 in
theorem rm12 (l : Launch) (Z : State) (a0 : Array Value) (hw : ∀ d ∈ tables_1, d.before a0 Z = true) (ws : List Jvm.Cond) (u0 : Addr) (u1 : Addr) (i_flags : Int32) (i_color : Int32) (i_style : Addr) (i_strokeWidth : UInt32) (i_strokeCap : Addr) (i_strokeJoin : Addr) (i_typeface : Addr) (i_textSize : UInt32) (i_textAlign : Addr) (h0 : Heap) (n0 : Nat) (Z0 : n0 ≤ h0.size) (g_u0 : n0 ≤ u0) (E_u0 : Exa Z h0 u0 "com/example/decorum/decorum/graphics/Paint") (F_flags_u0 : Fld Z h0 u0 "com/example/decorum/decorum/graphics/Paint" "flags" "I" (.int i_flags)) (F_color_u0 : Fld Z h0 u0 "com/example/decorum/decorum/graphics/Paint" "color" "I" (.int i_color)) (F_style_u0 : Fld Z h0 u0 "com/example/decorum/decorum/graphics/Paint" "style" "Lcom/example/decorum/decorum/graphics/Paint$Style;" (.ref i_style)) (F_strokeWidth_u0 : Fld Z h0 u0 "com/example/decorum/decorum/graphics/Paint" "strokeWidth" "F" (.float i_strokeWidth)) (F_strokeCap_u0 : Fld Z h0 u0 "com/example/decorum/decorum/graphics/Paint" "strokeCap" "Lcom/example/decorum/decorum/graphics/Paint$Cap;" (.ref i_strokeCap)) (F_strokeJoin_u0 : Fld Z h0 u0 "com/example/decorum/decorum/graphics/Paint" "strokeJoin" "Lcom/example/decorum/decorum/graphics/Paint$Join;" (.ref i_strokeJoin)) (F_typeface_u0 : Fld Z h0 u0 "com/example/decorum/decorum/graphics/Paint" "typeface" "Lcom/example/decorum/decorum/graphics/Typeface;" (.ref i_typeface)) (F_textSize_u0 : Fld Z h0 u0 "com/example/decorum/decorum/graphics/Paint" "textSize" "F" (.float i_textSize)) (F_textAlign_u0 : Fld Z h0 u0 "com/example/decorum/decorum/graphics/Paint" "textAlign" "Lcom/example/decorum/decorum/graphics/Paint$Align;" (.ref i_textAlign)) (E_u1 : Exa Z h0 u1 "com/example/decorum/decorum/graphics/Paint$Join") :
    MetFree l (⟨"com/example/decorum/decorum/graphics/Paint", "setStrokeJoin", "(Lcom/example/decorum/decorum/graphics/Paint$Join;)V"⟩ : MethodName) (head1 (Jvm.Cond.code (⟨"com/example/decorum/decorum/graphics/Paint", "setStrokeJoin", "(Lcom/example/decorum/decorum/graphics/Paint$Join;)V"⟩ : MethodName) prog_74_method_21_code 2 none :: ws) ({ frames := 1, cells := 2, slots := 20, locals := 14 } : Room)) (fun a U => a = #[(.ref u0), (.ref u1)] ∧ Z.Warmed39 U.vm ∧ U.heap = h0 ∧ CHv Z EL U.vm h0) (fun _ _ _ _ _ => True) (fun _ U o U' => ∃ v L, o = .returned v ∧ Q12 Z u0 u1 i_flags i_color i_style i_strokeWidth i_strokeCap i_strokeJoin i_typeface i_textSize i_textAlign h0 n0 v U'.heap L ∧ CHr Z EL U.vm U.heap U'.vm U'.heap ∧ ReturnedEndW U o U' L ({ frames := 1, cells := 2, slots := 20, locals := 14 } : Room).cells ({ frames := 1, cells := 2, slots := 20, locals := 14 } : Room).slots) := by
  refine MetFree.of_bodySF (plainFor_of_name pn_com_example_decorum_decorum_graphics_Paint) hisR ?_
  intro p e s m args below meth c s₁ Bd hml0 hP hK
  obtain ⟨rfl, hZ, hh, hC0⟩ := hP
  replace hZ : Z.Warmed39 (s.setVm s.vm).vm := hZ
  have hx := Bd.exec
  have hby := Bd.bytes
  have hml : c.maxLocals = 2 := hml0
  have hown : (s.setVm s.vm).vm.findClass "com/example/decorum/decorum/graphics/Paint" = some m.cls := findClass_of_methodNamed Bd.named
  have hnm := (name_of_methodNamed Bd.named Bd.method).1
  have X0 : Stand p l e ({ frames := 1, cells := 2, slots := 20, locals := 14 } : Room) (s.setVm s.vm) m #[(.ref u0), (.ref u1)] below meth c s₁ [] 0 0 := Stand.of_body Bd
  have e0 : s₁.heap = h0 := by rw [← hh, Bd.state]; rfl
  have N0 := Fr.nil n0
  have pre0 : ∀ t, Steps p.tables e below (s₁.setTop (mkF m 0 #[.val (.ref u0), .val (.ref u1)] [])) t → Steps p.tables e below (s₁.setTop (entryFrame m #[(.ref u0), (.ref u1)] 2)) t := fun t k => castTop (ef_12 m u0 u1) k
  have hS0 : s.Since s.vm s.heap.size := own_since s
  have hk0 : s.heap.size ≤ h0.size := Nat.le_of_eq (congrArg Array.size hh)
  have C0 : CHr Z EL s.vm h0 s.vm h0 := CHr.refl hC0
  have wS : ∀ d ∈ Bundle.stringAtoms, d.before a0 Z = true := fun d hd => hw d ((by decide +kernel : ∀ d ∈ Bundle.stringAtoms, d ∈ tables_1) d hd)
  obtain ⟨s1, T1, h1, q1, X1, e1, E1, hS1, hk1, hZ, hown, Cq1, Lt1, st1⟩ := ldcOH X0 hx hZ hown (hw _ (List.mem_of_getElem? (i := 106) rfl)) wS e0 hS0 hk0 (hEL hw) C0.1 (g := (mkF m 2 #[.val (.ref u0), .val (.ref u1)] [(.ref u1), (.ref u0)])) rfl (hb hby d12_2) (n := 16) (by decide +kernel) (by decide) (by decide) (by decide)
  have Z1 : n0 ≤ h1.size := Nat.le_trans Z0 E1.1
  have KK1 := (Keep.refl h0 [u0]).ext E1
  have C1 := C0.trans Cq1
  obtain ⟨_, _, ⟨T2, L2, k2, n2⟩, -, X2, ⟨Lc2, hQ2, l2, y2, z2⟩, st2⟩ := Jvm.LawKit.callS X1 hx (y := (⟨"java/util/Objects", "requireNonNull", "(Ljava/lang/Object;Ljava/lang/String;)Ljava/lang/Object;"⟩ : MethodName)) hown (mvT hZ (hw _ (List.mem_of_getElem? (i := 79) rfl))) (mvT hZ (hw _ (List.mem_of_getElem? (i := 80) rfl))) (mvT hZ (hw _ (List.mem_of_getElem? (i := 81) rfl))) (mvT hZ (hw _ (List.mem_of_getElem? (i := 82) rfl))) (by decide) (backOf (W := 1) (rm9 l Z a0 hw [] u1 s1 h1 n0 Z1 ) hZ (hw _ (List.mem_of_getElem? (i := 82) rfl)) (hw _ (List.mem_of_getElem? (i := 81) rfl)) (by decide) (by decide)) (g := (mkF m 4 #[.val (.ref u0), .val (.ref u1)] [(.ref s1), (.ref u1), (.ref u0)])) rfl (by rw [hml]; rfl) (argsL := [(.ref u1), (.ref s1)]) (rest := [(.ref u0)]) (lenOf pd_19 rfl) rfl (by show 2 * 0 + _ ≤ _; exact Nat.le_of_eq rfl) (hb hby d12_4) (fun _ _ => ⟨rfl, e1, (by decide : 2 + 0 ≤ _), (by decide : 20 + 0 ≤ _)⟩)
  dsimp only [Pt.U, Pt.locs, Pt.cells, Pt.slots] at X2 l2 y2 z2 st2 hQ2
  replace y2 : k2 = 2 := y2
  replace z2 : n2 = 20 := z2
  rw [y2, z2] at X2
  obtain ⟨rfl, N2q, e2⟩ := hQ2
  have N2 : Fr n0 L2 := l2 ▸ Fr.app N0 N2q
  obtain ⟨T3, X3, e3, st3⟩ := castY X2 hx hZ hown (hw _ (List.mem_of_getElem? (i := 107) rfl)) e2 (Ins.self (E_u1.ext E1)) (g := (mkF m 7 #[.val (.ref u0), .val (.ref u1)] [(.ref u1), (.ref u0)])) rfl rfl (hb hby d12_7)
  obtain ⟨T4, h4, X4, e4, W4, st4⟩ := putF X3 hx hZ hown (host := "") (Or.inl (hw _ (List.mem_of_getElem? (i := 48) rfl))) Via.refl e3 (F_strokeJoin_u0.ext E1) (E_u0.ext E1) (Or.inl (hw _ (List.mem_of_getElem? (i := 49) rfl))) (hw _ (List.mem_of_getElem? (i := 27) rfl)) (ty := (.object "com/example/decorum/decorum/graphics/Paint$Join")) (by decide) rfl rfl (g := (mkF m 10 #[.val (.ref u0), .val (.ref u1)] [(.ref u1), (.ref u0)])) rfl rfl (hb hby d12_10)
  have Fw4 := (F_strokeJoin_u0.ext E1).same W4
  have N4 := Fr.snoc X4 N2 g_u0
  have Z4 : n0 ≤ h4.size := Nat.le_trans Z1 (Keep.of_wr W4).1
  have KK4 := KK1.wr W4 (Or.inl (List.mem_of_getElem? (i := 0) rfl))
  have C4 := C1.trans (CHr.wr W4 (Safe.exa hZ.alike (E_u0.ext E1) (by decide) (by decide)) C1.1)
  have hk4 := Nat.le_trans hk1 (Keep.of_wr W4).1
  obtain ⟨fs, hr, hrun, hended, hE⟩ := X4.leaveW hS1 (Nat.le_trans hk4 (Nat.le_of_eq (congrArg Array.size e4).symm)) (v := none) (fun _ => rfl)
  refine ⟨_, _, pre0 _ ?_, hrun, hended, _, _, rfl, ?_, ?_, own_monoW hE (by decide) (by decide)⟩
  · show Steps p.tables e below (s₁.setTop (mkF m 0 #[.val (.ref u0), .val (.ref u1)] [])) _
    refine XS.aloadN X0.here hx rfl (hb hby d12_0) rfl rfl ?_
    show Steps p.tables e below (s₁.setTop (mkF m 1 #[.val (.ref u0), .val (.ref u1)] [(.ref u0)])) _
    refine XS.aloadN X0.here hx rfl (hb hby d12_1) rfl rfl ?_
    show Steps p.tables e below (s₁.setTop (mkF m 2 #[.val (.ref u0), .val (.ref u1)] [(.ref u1), (.ref u0)])) _
    refine st1 _ ?_
    show Steps p.tables e below (T1.setTop (mkF m 4 #[.val (.ref u0), .val (.ref u1)] [(.ref s1), (.ref u1), (.ref u0)])) _
    refine st2 _ ?_
    show Steps p.tables e below (T2.setTop (mkF m 7 #[.val (.ref u0), .val (.ref u1)] [(.ref u1), (.ref u0)])) _
    refine st3 _ ?_
    show Steps p.tables e below (T3.setTop (mkF m 10 #[.val (.ref u0), .val (.ref u1)] [(.ref u1), (.ref u0)])) _
    refine st4 _ ?_
    show Steps p.tables e below (T4.setTop (mkF m 13 #[.val (.ref u0), .val (.ref u1)] [])) _
    exact X4.returnOut hx Bd.returns (hb hby d12_13) hr
  · show Q12 Z u0 u1 i_flags i_color i_style i_strokeWidth i_strokeCap i_strokeJoin i_typeface i_textSize i_textAlign h0 n0 _ T4.heap _
    rw [e4]
    exact ⟨rfl, N4, KK4, ((E_u0.ext E1).wr W4), ((F_flags_u0.ext E1).other W4 (Or.inr (slot_ne (Or.inl (hw _ (List.mem_of_getElem? (i := 36) rfl))) (Or.inl (hw _ (List.mem_of_getElem? (i := 49) rfl))) (by decide) (t := .int) (t' := (.object "com/example/decorum/decorum/graphics/Paint$Join")) (by decide) (by decide)))), ((F_color_u0.ext E1).other W4 (Or.inr (slot_ne (Or.inl (hw _ (List.mem_of_getElem? (i := 39) rfl))) (Or.inl (hw _ (List.mem_of_getElem? (i := 49) rfl))) (by decide) (t := .int) (t' := (.object "com/example/decorum/decorum/graphics/Paint$Join")) (by decide) (by decide)))), ((F_style_u0.ext E1).other W4 (Or.inr (slot_ne (Or.inl (hw _ (List.mem_of_getElem? (i := 43) rfl))) (Or.inl (hw _ (List.mem_of_getElem? (i := 49) rfl))) (by decide) (t := (.object "com/example/decorum/decorum/graphics/Paint$Style")) (t' := (.object "com/example/decorum/decorum/graphics/Paint$Join")) (by decide) (by decide)))), ((F_strokeWidth_u0.ext E1).other W4 (Or.inr (slot_ne (Or.inl (hw _ (List.mem_of_getElem? (i := 92) rfl))) (Or.inl (hw _ (List.mem_of_getElem? (i := 49) rfl))) (by decide) (t := .float) (t' := (.object "com/example/decorum/decorum/graphics/Paint$Join")) (by decide) (by decide)))), ((F_strokeCap_u0.ext E1).other W4 (Or.inr (slot_ne (Or.inl (hw _ (List.mem_of_getElem? (i := 46) rfl))) (Or.inl (hw _ (List.mem_of_getElem? (i := 49) rfl))) (by decide) (t := (.object "com/example/decorum/decorum/graphics/Paint$Cap")) (t' := (.object "com/example/decorum/decorum/graphics/Paint$Join")) (by decide) (by decide)))), Fw4, ((F_typeface_u0.ext E1).other W4 (Or.inr (slot_ne (Or.inl (hw _ (List.mem_of_getElem? (i := 54) rfl))) (Or.inl (hw _ (List.mem_of_getElem? (i := 49) rfl))) (by decide) (t := (.object "com/example/decorum/decorum/graphics/Typeface")) (t' := (.object "com/example/decorum/decorum/graphics/Paint$Join")) (by decide) (by decide)))), ((F_textSize_u0.ext E1).other W4 (Or.inr (slot_ne (Or.inl (hw _ (List.mem_of_getElem? (i := 57) rfl))) (Or.inl (hw _ (List.mem_of_getElem? (i := 49) rfl))) (by decide) (t := .float) (t' := (.object "com/example/decorum/decorum/graphics/Paint$Join")) (by decide) (by decide)))), ((F_textAlign_u0.ext E1).other W4 (Or.inr (slot_ne (Or.inl (hw _ (List.mem_of_getElem? (i := 60) rfl))) (Or.inl (hw _ (List.mem_of_getElem? (i := 49) rfl))) (by decide) (t := (.object "com/example/decorum/decorum/graphics/Paint$Align")) (t' := (.object "com/example/decorum/decorum/graphics/Paint$Join")) (by decide) (by decide))))⟩
  · show CHr Z EL s.vm s.heap T4.vm T4.heap
    rw [e4]
    rw [hh]
    exact C4.trans (CHv.at X4 hZ (hEL hw) C4.1)
theorem d14_0 : decode prog_74_method_27_code 0 = .ok (.aload_n 0, 1) := by decide +kernel
theorem d14_1 : decode prog_74_method_27_code 1 = .ok (.aload_n 1, 1) := by decide +kernel
theorem d14_2 : decode prog_74_method_27_code 2 = .ok (.ldc 114, 2) := by decide +kernel
theorem d14_4 : decode prog_74_method_27_code 4 = .ok (.invokestatic 101, 3) := by decide +kernel
theorem d14_7 : decode prog_74_method_27_code 7 = .ok (.checkcast 64, 3) := by decide +kernel
theorem d14_10 : decode prog_74_method_27_code 10 = .ok (.putfield 69, 3) := by decide +kernel
theorem d14_13 : decode prog_74_method_27_code 13 = .ok (.return_, 1) := by decide +kernel
theorem ef_14 (m : MethodId) (u0 : Addr) (u1 : Addr) : entryFrame m #[(.ref u0), (.ref u1)] 2 = mkF m 0 #[.val (.ref u0), .val (.ref u1)] [] := by first | (simp [entryFrame, mkF, argsToLocals, Value.category]; done) | rfl
def Q14 (Z : State) (u0 : Addr) (u1 : Addr) (i_flags : Int32) (i_color : Int32) (i_style : Addr) (i_strokeWidth : UInt32) (i_strokeCap : Addr) (i_strokeJoin : Addr) (i_typeface : Addr) (i_textSize : UInt32) (i_textAlign : Addr) (h0 : Heap) (n0 : Nat) (v : Option Value) (h : Heap) (L : List Loc) : Prop := v = none ∧ Fr n0 L ∧ Keep h0 h [u0] ∧ Exa Z h u0 "com/example/decorum/decorum/graphics/Paint" ∧ Fld Z h u0 "com/example/decorum/decorum/graphics/Paint" "flags" "I" (.int i_flags) ∧ Fld Z h u0 "com/example/decorum/decorum/graphics/Paint" "color" "I" (.int i_color) ∧ Fld Z h u0 "com/example/decorum/decorum/graphics/Paint" "style" "Lcom/example/decorum/decorum/graphics/Paint$Style;" (.ref i_style) ∧ Fld Z h u0 "com/example/decorum/decorum/graphics/Paint" "strokeWidth" "F" (.float i_strokeWidth) ∧ Fld Z h u0 "com/example/decorum/decorum/graphics/Paint" "strokeCap" "Lcom/example/decorum/decorum/graphics/Paint$Cap;" (.ref i_strokeCap) ∧ Fld Z h u0 "com/example/decorum/decorum/graphics/Paint" "strokeJoin" "Lcom/example/decorum/decorum/graphics/Paint$Join;" (.ref i_strokeJoin) ∧ Fld Z h u0 "com/example/decorum/decorum/graphics/Paint" "typeface" "Lcom/example/decorum/decorum/graphics/Typeface;" (.ref i_typeface) ∧ Fld Z h u0 "com/example/decorum/decorum/graphics/Paint" "textSize" "F" (.float i_textSize) ∧ Fld Z h u0 "com/example/decorum/decorum/graphics/Paint" "textAlign" "Lcom/example/decorum/decorum/graphics/Paint$Align;" (.ref u1)
set_option maxRecDepth 65536 in
set_option maxHeartbeats 40000000 in
theorem rm14 (l : Launch) (Z : State) (a0 : Array Value) (hw : ∀ d ∈ tables_1, d.before a0 Z = true) (ws : List Jvm.Cond) (u0 : Addr) (u1 : Addr) (i_flags : Int32) (i_color : Int32) (i_style : Addr) (i_strokeWidth : UInt32) (i_strokeCap : Addr) (i_strokeJoin : Addr) (i_typeface : Addr) (i_textSize : UInt32) (i_textAlign : Addr) (h0 : Heap) (n0 : Nat) (Z0 : n0 ≤ h0.size) (g_u0 : n0 ≤ u0) (E_u0 : Exa Z h0 u0 "com/example/decorum/decorum/graphics/Paint") (F_flags_u0 : Fld Z h0 u0 "com/example/decorum/decorum/graphics/Paint" "flags" "I" (.int i_flags)) (F_color_u0 : Fld Z h0 u0 "com/example/decorum/decorum/graphics/Paint" "color" "I" (.int i_color)) (F_style_u0 : Fld Z h0 u0 "com/example/decorum/decorum/graphics/Paint" "style" "Lcom/example/decorum/decorum/graphics/Paint$Style;" (.ref i_style)) (F_strokeWidth_u0 : Fld Z h0 u0 "com/example/decorum/decorum/graphics/Paint" "strokeWidth" "F" (.float i_strokeWidth)) (F_strokeCap_u0 : Fld Z h0 u0 "com/example/decorum/decorum/graphics/Paint" "strokeCap" "Lcom/example/decorum/decorum/graphics/Paint$Cap;" (.ref i_strokeCap)) (F_strokeJoin_u0 : Fld Z h0 u0 "com/example/decorum/decorum/graphics/Paint" "strokeJoin" "Lcom/example/decorum/decorum/graphics/Paint$Join;" (.ref i_strokeJoin)) (F_typeface_u0 : Fld Z h0 u0 "com/example/decorum/decorum/graphics/Paint" "typeface" "Lcom/example/decorum/decorum/graphics/Typeface;" (.ref i_typeface)) (F_textSize_u0 : Fld Z h0 u0 "com/example/decorum/decorum/graphics/Paint" "textSize" "F" (.float i_textSize)) (F_textAlign_u0 : Fld Z h0 u0 "com/example/decorum/decorum/graphics/Paint" "textAlign" "Lcom/example/decorum/decorum/graphics/Paint$Align;" (.ref i_textAlign)) (E_u1 : Exa Z h0 u1 "com/example/decorum/decorum/graphics/Paint$Align") :
    MetFree l (⟨"com/example/decorum/decorum/graphics/Paint", "setTextAlign", "(Lcom/example/decorum/decorum/graphics/Paint$Align;)V"⟩ : MethodName) (head1 (Jvm.Cond.code (⟨"com/example/decorum/decorum/graphics/Paint", "setTextAlign", "(Lcom/example/decorum/decorum/graphics/Paint$Align;)V"⟩ : MethodName) prog_74_method_27_code 2 none :: ws) ({ frames := 1, cells := 2, slots := 24, locals := 14 } : Room)) (fun a U => a = #[(.ref u0), (.ref u1)] ∧ Z.Warmed39 U.vm ∧ U.heap = h0 ∧ CHv Z EL U.vm h0) (fun _ _ _ _ _ => True) (fun _ U o U' => ∃ v L, o = .returned v ∧ Q14 Z u0 u1 i_flags i_color i_style i_strokeWidth i_strokeCap i_strokeJoin i_typeface i_textSize i_textAlign h0 n0 v U'.heap L ∧ CHr Z EL U.vm U.heap U'.vm U'.heap ∧ ReturnedEndW U o U' L ({ frames := 1, cells := 2, slots := 24, locals := 14 } : Room).cells ({ frames := 1, cells := 2, slots := 24, locals := 14 } : Room).slots) := by
  refine MetFree.of_bodySF (plainFor_of_name pn_com_example_decorum_decorum_graphics_Paint) hisR ?_
  intro p e s m args below meth c s₁ Bd hml0 hP hK
  obtain ⟨rfl, hZ, hh, hC0⟩ := hP
  replace hZ : Z.Warmed39 (s.setVm s.vm).vm := hZ
  have hx := Bd.exec
  have hby := Bd.bytes
  have hml : c.maxLocals = 2 := hml0
  have hown : (s.setVm s.vm).vm.findClass "com/example/decorum/decorum/graphics/Paint" = some m.cls := findClass_of_methodNamed Bd.named
  have hnm := (name_of_methodNamed Bd.named Bd.method).1
  have X0 : Stand p l e ({ frames := 1, cells := 2, slots := 24, locals := 14 } : Room) (s.setVm s.vm) m #[(.ref u0), (.ref u1)] below meth c s₁ [] 0 0 := Stand.of_body Bd
  have e0 : s₁.heap = h0 := by rw [← hh, Bd.state]; rfl
  have N0 := Fr.nil n0
  have pre0 : ∀ t, Steps p.tables e below (s₁.setTop (mkF m 0 #[.val (.ref u0), .val (.ref u1)] [])) t → Steps p.tables e below (s₁.setTop (entryFrame m #[(.ref u0), (.ref u1)] 2)) t := fun t k => castTop (ef_14 m u0 u1) k
  have hS0 : s.Since s.vm s.heap.size := own_since s
  have hk0 : s.heap.size ≤ h0.size := Nat.le_of_eq (congrArg Array.size hh)
  have C0 : CHr Z EL s.vm h0 s.vm h0 := CHr.refl hC0
  have wS : ∀ d ∈ Bundle.stringAtoms, d.before a0 Z = true := fun d hd => hw d ((by decide +kernel : ∀ d ∈ Bundle.stringAtoms, d ∈ tables_1) d hd)
  obtain ⟨s1, T1, h1, q1, X1, e1, E1, hS1, hk1, hZ, hown, Cq1, Lt1, st1⟩ := ldcOH X0 hx hZ hown (hw _ (List.mem_of_getElem? (i := 119) rfl)) wS e0 hS0 hk0 (hEL hw) C0.1 (g := (mkF m 2 #[.val (.ref u0), .val (.ref u1)] [(.ref u1), (.ref u0)])) rfl (hb hby d14_2) (n := 20) (by decide +kernel) (by decide) (by decide) (by decide)
  have Z1 : n0 ≤ h1.size := Nat.le_trans Z0 E1.1
  have KK1 := (Keep.refl h0 [u0]).ext E1
  have C1 := C0.trans Cq1
  obtain ⟨_, _, ⟨T2, L2, k2, n2⟩, -, X2, ⟨Lc2, hQ2, l2, y2, z2⟩, st2⟩ := Jvm.LawKit.callS X1 hx (y := (⟨"java/util/Objects", "requireNonNull", "(Ljava/lang/Object;Ljava/lang/String;)Ljava/lang/Object;"⟩ : MethodName)) hown (mvT hZ (hw _ (List.mem_of_getElem? (i := 79) rfl))) (mvT hZ (hw _ (List.mem_of_getElem? (i := 80) rfl))) (mvT hZ (hw _ (List.mem_of_getElem? (i := 81) rfl))) (mvT hZ (hw _ (List.mem_of_getElem? (i := 82) rfl))) (by decide) (backOf (W := 1) (rm9 l Z a0 hw [] u1 s1 h1 n0 Z1 ) hZ (hw _ (List.mem_of_getElem? (i := 82) rfl)) (hw _ (List.mem_of_getElem? (i := 81) rfl)) (by decide) (by decide)) (g := (mkF m 4 #[.val (.ref u0), .val (.ref u1)] [(.ref s1), (.ref u1), (.ref u0)])) rfl (by rw [hml]; rfl) (argsL := [(.ref u1), (.ref s1)]) (rest := [(.ref u0)]) (lenOf pd_19 rfl) rfl (by show 2 * 0 + _ ≤ _; exact Nat.le_of_eq rfl) (hb hby d14_4) (fun _ _ => ⟨rfl, e1, (by decide : 2 + 0 ≤ _), (by decide : 24 + 0 ≤ _)⟩)
  dsimp only [Pt.U, Pt.locs, Pt.cells, Pt.slots] at X2 l2 y2 z2 st2 hQ2
  replace y2 : k2 = 2 := y2
  replace z2 : n2 = 24 := z2
  rw [y2, z2] at X2
  obtain ⟨rfl, N2q, e2⟩ := hQ2
  have N2 : Fr n0 L2 := l2 ▸ Fr.app N0 N2q
  obtain ⟨T3, X3, e3, st3⟩ := castY X2 hx hZ hown (hw _ (List.mem_of_getElem? (i := 120) rfl)) e2 (Ins.self (E_u1.ext E1)) (g := (mkF m 7 #[.val (.ref u0), .val (.ref u1)] [(.ref u1), (.ref u0)])) rfl rfl (hb hby d14_7)
  obtain ⟨T4, h4, X4, e4, W4, st4⟩ := putF X3 hx hZ hown (host := "") (Or.inl (hw _ (List.mem_of_getElem? (i := 59) rfl))) Via.refl e3 (F_textAlign_u0.ext E1) (E_u0.ext E1) (Or.inl (hw _ (List.mem_of_getElem? (i := 60) rfl))) (hw _ (List.mem_of_getElem? (i := 27) rfl)) (ty := (.object "com/example/decorum/decorum/graphics/Paint$Align")) (by decide) rfl rfl (g := (mkF m 10 #[.val (.ref u0), .val (.ref u1)] [(.ref u1), (.ref u0)])) rfl rfl (hb hby d14_10)
  have Fw4 := (F_textAlign_u0.ext E1).same W4
  have N4 := Fr.snoc X4 N2 g_u0
  have Z4 : n0 ≤ h4.size := Nat.le_trans Z1 (Keep.of_wr W4).1
  have KK4 := KK1.wr W4 (Or.inl (List.mem_of_getElem? (i := 0) rfl))
  have C4 := C1.trans (CHr.wr W4 (Safe.exa hZ.alike (E_u0.ext E1) (by decide) (by decide)) C1.1)
  have hk4 := Nat.le_trans hk1 (Keep.of_wr W4).1
  obtain ⟨fs, hr, hrun, hended, hE⟩ := X4.leaveW hS1 (Nat.le_trans hk4 (Nat.le_of_eq (congrArg Array.size e4).symm)) (v := none) (fun _ => rfl)
  refine ⟨_, _, pre0 _ ?_, hrun, hended, _, _, rfl, ?_, ?_, own_monoW hE (by decide) (by decide)⟩
  · show Steps p.tables e below (s₁.setTop (mkF m 0 #[.val (.ref u0), .val (.ref u1)] [])) _
    refine XS.aloadN X0.here hx rfl (hb hby d14_0) rfl rfl ?_
    show Steps p.tables e below (s₁.setTop (mkF m 1 #[.val (.ref u0), .val (.ref u1)] [(.ref u0)])) _
    refine XS.aloadN X0.here hx rfl (hb hby d14_1) rfl rfl ?_
    show Steps p.tables e below (s₁.setTop (mkF m 2 #[.val (.ref u0), .val (.ref u1)] [(.ref u1), (.ref u0)])) _
    refine st1 _ ?_
    show Steps p.tables e below (T1.setTop (mkF m 4 #[.val (.ref u0), .val (.ref u1)] [(.ref s1), (.ref u1), (.ref u0)])) _
    refine st2 _ ?_
    show Steps p.tables e below (T2.setTop (mkF m 7 #[.val (.ref u0), .val (.ref u1)] [(.ref u1), (.ref u0)])) _
    refine st3 _ ?_
    show Steps p.tables e below (T3.setTop (mkF m 10 #[.val (.ref u0), .val (.ref u1)] [(.ref u1), (.ref u0)])) _
    refine st4 _ ?_
    show Steps p.tables e below (T4.setTop (mkF m 13 #[.val (.ref u0), .val (.ref u1)] [])) _
    exact X4.returnOut hx Bd.returns (hb hby d14_13) hr
  · show Q14 Z u0 u1 i_flags i_color i_style i_strokeWidth i_strokeCap i_strokeJoin i_typeface i_textSize i_textAlign h0 n0 _ T4.heap _
    rw [e4]
    exact ⟨rfl, N4, KK4, ((E_u0.ext E1).wr W4), ((F_flags_u0.ext E1).other W4 (Or.inr (slot_ne (Or.inl (hw _ (List.mem_of_getElem? (i := 36) rfl))) (Or.inl (hw _ (List.mem_of_getElem? (i := 60) rfl))) (by decide) (t := .int) (t' := (.object "com/example/decorum/decorum/graphics/Paint$Align")) (by decide) (by decide)))), ((F_color_u0.ext E1).other W4 (Or.inr (slot_ne (Or.inl (hw _ (List.mem_of_getElem? (i := 39) rfl))) (Or.inl (hw _ (List.mem_of_getElem? (i := 60) rfl))) (by decide) (t := .int) (t' := (.object "com/example/decorum/decorum/graphics/Paint$Align")) (by decide) (by decide)))), ((F_style_u0.ext E1).other W4 (Or.inr (slot_ne (Or.inl (hw _ (List.mem_of_getElem? (i := 43) rfl))) (Or.inl (hw _ (List.mem_of_getElem? (i := 60) rfl))) (by decide) (t := (.object "com/example/decorum/decorum/graphics/Paint$Style")) (t' := (.object "com/example/decorum/decorum/graphics/Paint$Align")) (by decide) (by decide)))), ((F_strokeWidth_u0.ext E1).other W4 (Or.inr (slot_ne (Or.inl (hw _ (List.mem_of_getElem? (i := 92) rfl))) (Or.inl (hw _ (List.mem_of_getElem? (i := 60) rfl))) (by decide) (t := .float) (t' := (.object "com/example/decorum/decorum/graphics/Paint$Align")) (by decide) (by decide)))), ((F_strokeCap_u0.ext E1).other W4 (Or.inr (slot_ne (Or.inl (hw _ (List.mem_of_getElem? (i := 46) rfl))) (Or.inl (hw _ (List.mem_of_getElem? (i := 60) rfl))) (by decide) (t := (.object "com/example/decorum/decorum/graphics/Paint$Cap")) (t' := (.object "com/example/decorum/decorum/graphics/Paint$Align")) (by decide) (by decide)))), ((F_strokeJoin_u0.ext E1).other W4 (Or.inr (slot_ne (Or.inl (hw _ (List.mem_of_getElem? (i := 49) rfl))) (Or.inl (hw _ (List.mem_of_getElem? (i := 60) rfl))) (by decide) (t := (.object "com/example/decorum/decorum/graphics/Paint$Join")) (t' := (.object "com/example/decorum/decorum/graphics/Paint$Align")) (by decide) (by decide)))), ((F_typeface_u0.ext E1).other W4 (Or.inr (slot_ne (Or.inl (hw _ (List.mem_of_getElem? (i := 54) rfl))) (Or.inl (hw _ (List.mem_of_getElem? (i := 60) rfl))) (by decide) (t := (.object "com/example/decorum/decorum/graphics/Typeface")) (t' := (.object "com/example/decorum/decorum/graphics/Paint$Align")) (by decide) (by decide)))), ((F_textSize_u0.ext E1).other W4 (Or.inr (slot_ne (Or.inl (hw _ (List.mem_of_getElem? (i := 57) rfl))) (Or.inl (hw _ (List.mem_of_getElem? (i := 60) rfl))) (by decide) (t := .float) (t' := (.object "com/example/decorum/decorum/graphics/Paint$Align")) (by decide) (by decide)))), Fw4⟩
  · show CHr Z EL s.vm s.heap T4.vm T4.heap
    rw [e4]
    rw [hh]
    exact C4.trans (CHv.at X4 hZ (hEL hw) C4.1)
theorem d10_0 : decode prog_74_method_17_code 0 = .ok (.fload_n 1, 1) := by decide +kernel
theorem d10_1 : decode prog_74_method_17_code 1 = .ok (.fconst 0, 1) := by decide +kernel
theorem d10_2 : decode prog_74_method_17_code 2 = .ok (.fcmp .l, 1) := by decide +kernel
theorem d10_3 : decode prog_74_method_17_code 3 = .ok (.ifCond .lt 15, 3) := by decide +kernel
theorem d10_6 : decode prog_74_method_17_code 6 = .ok (.fload_n 1, 1) := by decide +kernel
theorem d10_7 : decode prog_74_method_17_code 7 = .ok (.ldc 109, 2) := by decide +kernel
theorem d10_9 : decode prog_74_method_17_code 9 = .ok (.fcmp .g, 1) := by decide +kernel
theorem d10_10 : decode prog_74_method_17_code 10 = .ok (.ifCond .ge 8, 3) := by decide +kernel
theorem d10_13 : decode prog_74_method_17_code 13 = .ok (.aload_n 0, 1) := by decide +kernel
theorem d10_14 : decode prog_74_method_17_code 14 = .ok (.fload_n 1, 1) := by decide +kernel
theorem d10_15 : decode prog_74_method_17_code 15 = .ok (.putfield 76, 3) := by decide +kernel
theorem d10_18 : decode prog_74_method_17_code 18 = .ok (.return_, 1) := by decide +kernel
theorem ef_10 (m : MethodId) (u0 : Addr) (u1 : UInt32) : entryFrame m #[(.ref u0), (.float u1)] 2 = mkF m 0 #[.val (.ref u0), .val (.float u1)] [] := by first | (simp [entryFrame, mkF, argsToLocals, Value.category]; done) | rfl
def Q10 (Z : State) (u0 : Addr) (u1 : UInt32) (i_flags : Int32) (i_color : Int32) (i_style : Addr) (i_strokeWidth : UInt32) (i_strokeCap : Addr) (i_strokeJoin : Addr) (i_typeface : Addr) (i_textSize : UInt32) (i_textAlign : Addr) (h0 : Heap) (n0 : Nat) (v : Option Value) (h : Heap) (L : List Loc) : Prop := v = none ∧ Fr n0 L ∧ Keep h0 h [u0] ∧ Exa Z h u0 "com/example/decorum/decorum/graphics/Paint" ∧ Fld Z h u0 "com/example/decorum/decorum/graphics/Paint" "flags" "I" (.int i_flags) ∧ Fld Z h u0 "com/example/decorum/decorum/graphics/Paint" "color" "I" (.int i_color) ∧ Fld Z h u0 "com/example/decorum/decorum/graphics/Paint" "style" "Lcom/example/decorum/decorum/graphics/Paint$Style;" (.ref i_style) ∧ Fld Z h u0 "com/example/decorum/decorum/graphics/Paint" "strokeWidth" "F" (.float u1) ∧ Fld Z h u0 "com/example/decorum/decorum/graphics/Paint" "strokeCap" "Lcom/example/decorum/decorum/graphics/Paint$Cap;" (.ref i_strokeCap) ∧ Fld Z h u0 "com/example/decorum/decorum/graphics/Paint" "strokeJoin" "Lcom/example/decorum/decorum/graphics/Paint$Join;" (.ref i_strokeJoin) ∧ Fld Z h u0 "com/example/decorum/decorum/graphics/Paint" "typeface" "Lcom/example/decorum/decorum/graphics/Typeface;" (.ref i_typeface) ∧ Fld Z h u0 "com/example/decorum/decorum/graphics/Paint" "textSize" "F" (.float i_textSize) ∧ Fld Z h u0 "com/example/decorum/decorum/graphics/Paint" "textAlign" "Lcom/example/decorum/decorum/graphics/Paint$Align;" (.ref i_textAlign)
set_option maxRecDepth 65536 in
set_option maxHeartbeats 40000000 in
theorem rm10 (l : Launch) (Z : State) (a0 : Array Value) (hw : ∀ d ∈ tables_1, d.before a0 Z = true) (ws : List Jvm.Cond) (u0 : Addr) (u1 : UInt32) (i_flags : Int32) (i_color : Int32) (i_style : Addr) (i_strokeWidth : UInt32) (i_strokeCap : Addr) (i_strokeJoin : Addr) (i_typeface : Addr) (i_textSize : UInt32) (i_textAlign : Addr) (h0 : Heap) (n0 : Nat) (Z0 : n0 ≤ h0.size) (g_u0 : n0 ≤ u0) (E_u0 : Exa Z h0 u0 "com/example/decorum/decorum/graphics/Paint") (F_flags_u0 : Fld Z h0 u0 "com/example/decorum/decorum/graphics/Paint" "flags" "I" (.int i_flags)) (F_color_u0 : Fld Z h0 u0 "com/example/decorum/decorum/graphics/Paint" "color" "I" (.int i_color)) (F_style_u0 : Fld Z h0 u0 "com/example/decorum/decorum/graphics/Paint" "style" "Lcom/example/decorum/decorum/graphics/Paint$Style;" (.ref i_style)) (F_strokeWidth_u0 : Fld Z h0 u0 "com/example/decorum/decorum/graphics/Paint" "strokeWidth" "F" (.float i_strokeWidth)) (F_strokeCap_u0 : Fld Z h0 u0 "com/example/decorum/decorum/graphics/Paint" "strokeCap" "Lcom/example/decorum/decorum/graphics/Paint$Cap;" (.ref i_strokeCap)) (F_strokeJoin_u0 : Fld Z h0 u0 "com/example/decorum/decorum/graphics/Paint" "strokeJoin" "Lcom/example/decorum/decorum/graphics/Paint$Join;" (.ref i_strokeJoin)) (F_typeface_u0 : Fld Z h0 u0 "com/example/decorum/decorum/graphics/Paint" "typeface" "Lcom/example/decorum/decorum/graphics/Typeface;" (.ref i_typeface)) (F_textSize_u0 : Fld Z h0 u0 "com/example/decorum/decorum/graphics/Paint" "textSize" "F" (.float i_textSize)) (F_textAlign_u0 : Fld Z h0 u0 "com/example/decorum/decorum/graphics/Paint" "textAlign" "Lcom/example/decorum/decorum/graphics/Paint$Align;" (.ref i_textAlign)) (hc1 : ¬ cmpValue (FP.fcmp u1 (0 : UInt32)) .l < 0) (hc2 : cmpValue (FP.fcmp u1 (2139095040 : UInt32)) .g < 0) :
    MetFree l (⟨"com/example/decorum/decorum/graphics/Paint", "setStrokeWidth", "(F)V"⟩ : MethodName) (head1 (Jvm.Cond.code (⟨"com/example/decorum/decorum/graphics/Paint", "setStrokeWidth", "(F)V"⟩ : MethodName) prog_74_method_17_code 2 none :: ws) ({ frames := 0, cells := 0, slots := 0, locals := 0 } : Room)) (fun a U => a = #[(.ref u0), (.float u1)] ∧ Z.Warmed39 U.vm ∧ U.heap = h0) (fun _ _ _ _ _ => True) (fun _ U o U' => ∃ v L, o = .returned v ∧ Q10 Z u0 u1 i_flags i_color i_style i_strokeWidth i_strokeCap i_strokeJoin i_typeface i_textSize i_textAlign h0 n0 v U'.heap L ∧ FrameEnd U o U' L ({ frames := 0, cells := 0, slots := 0, locals := 0 } : Room).cells ({ frames := 0, cells := 0, slots := 0, locals := 0 } : Room).slots) := by
  refine MetFree.of_bodySF (plainFor_of_name pn_com_example_decorum_decorum_graphics_Paint) hisR ?_
  intro p e s m args below meth c s₁ Bd hml0 hP hK
  obtain ⟨rfl, hZ, hh⟩ := hP
  have hx := Bd.exec
  have hby := Bd.bytes
  have hml : c.maxLocals = 2 := hml0
  have hown : s.vm.findClass "com/example/decorum/decorum/graphics/Paint" = some m.cls := findClass_of_methodNamed Bd.named
  have hnm := (name_of_methodNamed Bd.named Bd.method).1
  have X0 : Stand p l e ({ frames := 0, cells := 0, slots := 0, locals := 0 } : Room) s m #[(.ref u0), (.float u1)] below meth c s₁ [] 0 0 := Stand.of_body Bd
  have e0 : s₁.heap = h0 := by rw [← hh, Bd.state]; rfl
  have N0 := Fr.nil n0
  have pre0 : ∀ t, Steps p.tables e below (s₁.setTop (mkF m 0 #[.val (.ref u0), .val (.float u1)] [])) t → Steps p.tables e below (s₁.setTop (entryFrame m #[(.ref u0), (.float u1)] 2)) t := fun t k => castTop (ef_10 m u0 u1) k
  have st1 := X0.ldcFloatC hx hown (mvT hZ (hw _ (List.mem_of_getElem? (i := 90) rfl))) (g := (mkF m 7 #[.val (.ref u0), .val (.float u1)] [(.float u1)])) rfl (hb hby d10_7)
  obtain ⟨T2, h2, X2, e2, W2, st2⟩ := putF X0 hx hZ hown (host := "") (Or.inl (hw _ (List.mem_of_getElem? (i := 91) rfl))) Via.refl e0 F_strokeWidth_u0 E_u0 (Or.inl (hw _ (List.mem_of_getElem? (i := 92) rfl))) (hw _ (List.mem_of_getElem? (i := 27) rfl)) (ty := .float) (by decide) rfl rfl (g := (mkF m 15 #[.val (.ref u0), .val (.float u1)] [(.float u1), (.ref u0)])) rfl rfl (hb hby d10_15)
  have Fw2 := F_strokeWidth_u0.same W2
  have N2 := Fr.snoc X2 N0 g_u0
  have Z2 : n0 ≤ h2.size := Nat.le_trans Z0 (Keep.of_wr W2).1
  have KK2 := (Keep.refl h0 [u0]).wr W2 (Or.inl (List.mem_of_getElem? (i := 0) rfl))
  obtain ⟨fs, hr, hrun, hended, hW, hsame⟩ := X2.leave (v := none) (fun _ => rfl)
  refine ⟨_, _, pre0 _ ?_, hrun, hended, _, _, rfl, ?_, ⟨_, rfl⟩, hW, hsame.mono (by decide) (by decide)⟩
  · show Steps p.tables e below (s₁.setTop (mkF m 0 #[.val (.ref u0), .val (.float u1)] [])) _
    refine XS.floadN X0.here hx rfl (hb hby d10_0) rfl ?_
    show Steps p.tables e below (s₁.setTop (mkF m 1 #[.val (.ref u0), .val (.float u1)] [(.float u1)])) _
    refine XS.fconst0 X0.here hx rfl (hb hby d10_1) (v := 0) (by decide +kernel) ?_
    show Steps p.tables e below (s₁.setTop (mkF m 2 #[.val (.ref u0), .val (.float u1)] [(.float (0 : UInt32)), (.float u1)])) _
    refine XS.fcmpS X0.here hx rfl (hb hby d10_2) rfl (v := (cmpValue (FP.fcmp u1 (0 : UInt32)) .l)) rfl ?_
    show Steps p.tables e below (s₁.setTop (mkF m 3 #[.val (.ref u0), .val (.float u1)] [(.int (cmpValue (FP.fcmp u1 (0 : UInt32)) .l))])) _
    refine XS.ifNo X0.here hx rfl (hb hby d10_3) rfl ((if0 _ _).trans (flt hc1).1) ?_
    show Steps p.tables e below (s₁.setTop (mkF m 6 #[.val (.ref u0), .val (.float u1)] [])) _
    refine XS.floadN X0.here hx rfl (hb hby d10_6) rfl ?_
    show Steps p.tables e below (s₁.setTop (mkF m 7 #[.val (.ref u0), .val (.float u1)] [(.float u1)])) _
    refine st1 _ ?_
    show Steps p.tables e below (s₁.setTop (mkF m 9 #[.val (.ref u0), .val (.float u1)] [(.float (2139095040 : UInt32)), (.float u1)])) _
    refine XS.fcmpS X0.here hx rfl (hb hby d10_9) rfl (v := (cmpValue (FP.fcmp u1 (2139095040 : UInt32)) .g)) rfl ?_
    show Steps p.tables e below (s₁.setTop (mkF m 10 #[.val (.ref u0), .val (.float u1)] [(.int (cmpValue (FP.fcmp u1 (2139095040 : UInt32)) .g))])) _
    refine XS.ifNo X0.here hx rfl (hb hby d10_10) rfl ((if0 _ _).trans (tlt hc2).2.1) ?_
    show Steps p.tables e below (s₁.setTop (mkF m 13 #[.val (.ref u0), .val (.float u1)] [])) _
    refine XS.aloadN X0.here hx rfl (hb hby d10_13) rfl rfl ?_
    show Steps p.tables e below (s₁.setTop (mkF m 14 #[.val (.ref u0), .val (.float u1)] [(.ref u0)])) _
    refine XS.floadN X0.here hx rfl (hb hby d10_14) rfl ?_
    show Steps p.tables e below (s₁.setTop (mkF m 15 #[.val (.ref u0), .val (.float u1)] [(.float u1), (.ref u0)])) _
    refine st2 _ ?_
    show Steps p.tables e below (T2.setTop (mkF m 18 #[.val (.ref u0), .val (.float u1)] [])) _
    exact X2.returnOut hx Bd.returns (hb hby d10_18) hr
  · show Q10 Z u0 u1 i_flags i_color i_style i_strokeWidth i_strokeCap i_strokeJoin i_typeface i_textSize i_textAlign h0 n0 _ T2.heap _
    rw [e2]
    exact ⟨rfl, N2, KK2, (E_u0.wr W2), (F_flags_u0.other W2 (Or.inr (slot_ne (Or.inl (hw _ (List.mem_of_getElem? (i := 36) rfl))) (Or.inl (hw _ (List.mem_of_getElem? (i := 92) rfl))) (by decide) (t := .int) (t' := .float) (by decide) (by decide)))), (F_color_u0.other W2 (Or.inr (slot_ne (Or.inl (hw _ (List.mem_of_getElem? (i := 39) rfl))) (Or.inl (hw _ (List.mem_of_getElem? (i := 92) rfl))) (by decide) (t := .int) (t' := .float) (by decide) (by decide)))), (F_style_u0.other W2 (Or.inr (slot_ne (Or.inl (hw _ (List.mem_of_getElem? (i := 43) rfl))) (Or.inl (hw _ (List.mem_of_getElem? (i := 92) rfl))) (by decide) (t := (.object "com/example/decorum/decorum/graphics/Paint$Style")) (t' := .float) (by decide) (by decide)))), Fw2, (F_strokeCap_u0.other W2 (Or.inr (slot_ne (Or.inl (hw _ (List.mem_of_getElem? (i := 46) rfl))) (Or.inl (hw _ (List.mem_of_getElem? (i := 92) rfl))) (by decide) (t := (.object "com/example/decorum/decorum/graphics/Paint$Cap")) (t' := .float) (by decide) (by decide)))), (F_strokeJoin_u0.other W2 (Or.inr (slot_ne (Or.inl (hw _ (List.mem_of_getElem? (i := 49) rfl))) (Or.inl (hw _ (List.mem_of_getElem? (i := 92) rfl))) (by decide) (t := (.object "com/example/decorum/decorum/graphics/Paint$Join")) (t' := .float) (by decide) (by decide)))), (F_typeface_u0.other W2 (Or.inr (slot_ne (Or.inl (hw _ (List.mem_of_getElem? (i := 54) rfl))) (Or.inl (hw _ (List.mem_of_getElem? (i := 92) rfl))) (by decide) (t := (.object "com/example/decorum/decorum/graphics/Typeface")) (t' := .float) (by decide) (by decide)))), (F_textSize_u0.other W2 (Or.inr (slot_ne (Or.inl (hw _ (List.mem_of_getElem? (i := 57) rfl))) (Or.inl (hw _ (List.mem_of_getElem? (i := 92) rfl))) (by decide) (t := .float) (t' := .float) (by decide) (by decide)))), (F_textAlign_u0.other W2 (Or.inr (slot_ne (Or.inl (hw _ (List.mem_of_getElem? (i := 60) rfl))) (Or.inl (hw _ (List.mem_of_getElem? (i := 92) rfl))) (by decide) (t := (.object "com/example/decorum/decorum/graphics/Paint$Align")) (t' := .float) (by decide) (by decide))))⟩
theorem d13_0 : decode prog_74_method_25_code 0 = .ok (.fload_n 1, 1) := by decide +kernel
theorem d13_1 : decode prog_74_method_25_code 1 = .ok (.fconst 0, 1) := by decide +kernel
theorem d13_2 : decode prog_74_method_25_code 2 = .ok (.fcmp .l, 1) := by decide +kernel
theorem d13_3 : decode prog_74_method_25_code 3 = .ok (.ifCond .lt 15, 3) := by decide +kernel
theorem d13_6 : decode prog_74_method_25_code 6 = .ok (.fload_n 1, 1) := by decide +kernel
theorem d13_7 : decode prog_74_method_25_code 7 = .ok (.ldc 109, 2) := by decide +kernel
theorem d13_9 : decode prog_74_method_25_code 9 = .ok (.fcmp .g, 1) := by decide +kernel
theorem d13_10 : decode prog_74_method_25_code 10 = .ok (.ifCond .ge 8, 3) := by decide +kernel
theorem d13_13 : decode prog_74_method_25_code 13 = .ok (.aload_n 0, 1) := by decide +kernel
theorem d13_14 : decode prog_74_method_25_code 14 = .ok (.fload_n 1, 1) := by decide +kernel
theorem d13_15 : decode prog_74_method_25_code 15 = .ok (.putfield 59, 3) := by decide +kernel
theorem d13_18 : decode prog_74_method_25_code 18 = .ok (.return_, 1) := by decide +kernel
theorem ef_13 (m : MethodId) (u0 : Addr) (u1 : UInt32) : entryFrame m #[(.ref u0), (.float u1)] 2 = mkF m 0 #[.val (.ref u0), .val (.float u1)] [] := by first | (simp [entryFrame, mkF, argsToLocals, Value.category]; done) | rfl
def Q13 (Z : State) (u0 : Addr) (u1 : UInt32) (i_flags : Int32) (i_color : Int32) (i_style : Addr) (i_strokeWidth : UInt32) (i_strokeCap : Addr) (i_strokeJoin : Addr) (i_typeface : Addr) (i_textSize : UInt32) (i_textAlign : Addr) (h0 : Heap) (n0 : Nat) (v : Option Value) (h : Heap) (L : List Loc) : Prop := v = none ∧ Fr n0 L ∧ Keep h0 h [u0] ∧ Exa Z h u0 "com/example/decorum/decorum/graphics/Paint" ∧ Fld Z h u0 "com/example/decorum/decorum/graphics/Paint" "flags" "I" (.int i_flags) ∧ Fld Z h u0 "com/example/decorum/decorum/graphics/Paint" "color" "I" (.int i_color) ∧ Fld Z h u0 "com/example/decorum/decorum/graphics/Paint" "style" "Lcom/example/decorum/decorum/graphics/Paint$Style;" (.ref i_style) ∧ Fld Z h u0 "com/example/decorum/decorum/graphics/Paint" "strokeWidth" "F" (.float i_strokeWidth) ∧ Fld Z h u0 "com/example/decorum/decorum/graphics/Paint" "strokeCap" "Lcom/example/decorum/decorum/graphics/Paint$Cap;" (.ref i_strokeCap) ∧ Fld Z h u0 "com/example/decorum/decorum/graphics/Paint" "strokeJoin" "Lcom/example/decorum/decorum/graphics/Paint$Join;" (.ref i_strokeJoin) ∧ Fld Z h u0 "com/example/decorum/decorum/graphics/Paint" "typeface" "Lcom/example/decorum/decorum/graphics/Typeface;" (.ref i_typeface) ∧ Fld Z h u0 "com/example/decorum/decorum/graphics/Paint" "textSize" "F" (.float u1) ∧ Fld Z h u0 "com/example/decorum/decorum/graphics/Paint" "textAlign" "Lcom/example/decorum/decorum/graphics/Paint$Align;" (.ref i_textAlign)
set_option maxRecDepth 65536 in
set_option maxHeartbeats 40000000 in
theorem rm13 (l : Launch) (Z : State) (a0 : Array Value) (hw : ∀ d ∈ tables_1, d.before a0 Z = true) (ws : List Jvm.Cond) (u0 : Addr) (u1 : UInt32) (i_flags : Int32) (i_color : Int32) (i_style : Addr) (i_strokeWidth : UInt32) (i_strokeCap : Addr) (i_strokeJoin : Addr) (i_typeface : Addr) (i_textSize : UInt32) (i_textAlign : Addr) (h0 : Heap) (n0 : Nat) (Z0 : n0 ≤ h0.size) (g_u0 : n0 ≤ u0) (E_u0 : Exa Z h0 u0 "com/example/decorum/decorum/graphics/Paint") (F_flags_u0 : Fld Z h0 u0 "com/example/decorum/decorum/graphics/Paint" "flags" "I" (.int i_flags)) (F_color_u0 : Fld Z h0 u0 "com/example/decorum/decorum/graphics/Paint" "color" "I" (.int i_color)) (F_style_u0 : Fld Z h0 u0 "com/example/decorum/decorum/graphics/Paint" "style" "Lcom/example/decorum/decorum/graphics/Paint$Style;" (.ref i_style)) (F_strokeWidth_u0 : Fld Z h0 u0 "com/example/decorum/decorum/graphics/Paint" "strokeWidth" "F" (.float i_strokeWidth)) (F_strokeCap_u0 : Fld Z h0 u0 "com/example/decorum/decorum/graphics/Paint" "strokeCap" "Lcom/example/decorum/decorum/graphics/Paint$Cap;" (.ref i_strokeCap)) (F_strokeJoin_u0 : Fld Z h0 u0 "com/example/decorum/decorum/graphics/Paint" "strokeJoin" "Lcom/example/decorum/decorum/graphics/Paint$Join;" (.ref i_strokeJoin)) (F_typeface_u0 : Fld Z h0 u0 "com/example/decorum/decorum/graphics/Paint" "typeface" "Lcom/example/decorum/decorum/graphics/Typeface;" (.ref i_typeface)) (F_textSize_u0 : Fld Z h0 u0 "com/example/decorum/decorum/graphics/Paint" "textSize" "F" (.float i_textSize)) (F_textAlign_u0 : Fld Z h0 u0 "com/example/decorum/decorum/graphics/Paint" "textAlign" "Lcom/example/decorum/decorum/graphics/Paint$Align;" (.ref i_textAlign)) (hc1 : ¬ cmpValue (FP.fcmp u1 (0 : UInt32)) .l < 0) (hc2 : cmpValue (FP.fcmp u1 (2139095040 : UInt32)) .g < 0) :
    MetFree l (⟨"com/example/decorum/decorum/graphics/Paint", "setTextSize", "(F)V"⟩ : MethodName) (head1 (Jvm.Cond.code (⟨"com/example/decorum/decorum/graphics/Paint", "setTextSize", "(F)V"⟩ : MethodName) prog_74_method_25_code 2 none :: ws) ({ frames := 0, cells := 0, slots := 0, locals := 0 } : Room)) (fun a U => a = #[(.ref u0), (.float u1)] ∧ Z.Warmed39 U.vm ∧ U.heap = h0) (fun _ _ _ _ _ => True) (fun _ U o U' => ∃ v L, o = .returned v ∧ Q13 Z u0 u1 i_flags i_color i_style i_strokeWidth i_strokeCap i_strokeJoin i_typeface i_textSize i_textAlign h0 n0 v U'.heap L ∧ FrameEnd U o U' L ({ frames := 0, cells := 0, slots := 0, locals := 0 } : Room).cells ({ frames := 0, cells := 0, slots := 0, locals := 0 } : Room).slots) := by
  refine MetFree.of_bodySF (plainFor_of_name pn_com_example_decorum_decorum_graphics_Paint) hisR ?_
  intro p e s m args below meth c s₁ Bd hml0 hP hK
  obtain ⟨rfl, hZ, hh⟩ := hP
  have hx := Bd.exec
  have hby := Bd.bytes
  have hml : c.maxLocals = 2 := hml0
  have hown : s.vm.findClass "com/example/decorum/decorum/graphics/Paint" = some m.cls := findClass_of_methodNamed Bd.named
  have hnm := (name_of_methodNamed Bd.named Bd.method).1
  have X0 : Stand p l e ({ frames := 0, cells := 0, slots := 0, locals := 0 } : Room) s m #[(.ref u0), (.float u1)] below meth c s₁ [] 0 0 := Stand.of_body Bd
  have e0 : s₁.heap = h0 := by rw [← hh, Bd.state]; rfl
  have N0 := Fr.nil n0
  have pre0 : ∀ t, Steps p.tables e below (s₁.setTop (mkF m 0 #[.val (.ref u0), .val (.float u1)] [])) t → Steps p.tables e below (s₁.setTop (entryFrame m #[(.ref u0), (.float u1)] 2)) t := fun t k => castTop (ef_13 m u0 u1) k
  have st1 := X0.ldcFloatC hx hown (mvT hZ (hw _ (List.mem_of_getElem? (i := 90) rfl))) (g := (mkF m 7 #[.val (.ref u0), .val (.float u1)] [(.float u1)])) rfl (hb hby d13_7)
  obtain ⟨T2, h2, X2, e2, W2, st2⟩ := putF X0 hx hZ hown (host := "") (Or.inl (hw _ (List.mem_of_getElem? (i := 56) rfl))) Via.refl e0 F_textSize_u0 E_u0 (Or.inl (hw _ (List.mem_of_getElem? (i := 57) rfl))) (hw _ (List.mem_of_getElem? (i := 27) rfl)) (ty := .float) (by decide) rfl rfl (g := (mkF m 15 #[.val (.ref u0), .val (.float u1)] [(.float u1), (.ref u0)])) rfl rfl (hb hby d13_15)
  have Fw2 := F_textSize_u0.same W2
  have N2 := Fr.snoc X2 N0 g_u0
  have Z2 : n0 ≤ h2.size := Nat.le_trans Z0 (Keep.of_wr W2).1
  have KK2 := (Keep.refl h0 [u0]).wr W2 (Or.inl (List.mem_of_getElem? (i := 0) rfl))
  obtain ⟨fs, hr, hrun, hended, hW, hsame⟩ := X2.leave (v := none) (fun _ => rfl)
  refine ⟨_, _, pre0 _ ?_, hrun, hended, _, _, rfl, ?_, ⟨_, rfl⟩, hW, hsame.mono (by decide) (by decide)⟩
  · show Steps p.tables e below (s₁.setTop (mkF m 0 #[.val (.ref u0), .val (.float u1)] [])) _
    refine XS.floadN X0.here hx rfl (hb hby d13_0) rfl ?_
    show Steps p.tables e below (s₁.setTop (mkF m 1 #[.val (.ref u0), .val (.float u1)] [(.float u1)])) _
    refine XS.fconst0 X0.here hx rfl (hb hby d13_1) (v := 0) (by decide +kernel) ?_
    show Steps p.tables e below (s₁.setTop (mkF m 2 #[.val (.ref u0), .val (.float u1)] [(.float (0 : UInt32)), (.float u1)])) _
    refine XS.fcmpS X0.here hx rfl (hb hby d13_2) rfl (v := (cmpValue (FP.fcmp u1 (0 : UInt32)) .l)) rfl ?_
    show Steps p.tables e below (s₁.setTop (mkF m 3 #[.val (.ref u0), .val (.float u1)] [(.int (cmpValue (FP.fcmp u1 (0 : UInt32)) .l))])) _
    refine XS.ifNo X0.here hx rfl (hb hby d13_3) rfl ((if0 _ _).trans (flt hc1).1) ?_
    show Steps p.tables e below (s₁.setTop (mkF m 6 #[.val (.ref u0), .val (.float u1)] [])) _
    refine XS.floadN X0.here hx rfl (hb hby d13_6) rfl ?_
    show Steps p.tables e below (s₁.setTop (mkF m 7 #[.val (.ref u0), .val (.float u1)] [(.float u1)])) _
    refine st1 _ ?_
    show Steps p.tables e below (s₁.setTop (mkF m 9 #[.val (.ref u0), .val (.float u1)] [(.float (2139095040 : UInt32)), (.float u1)])) _
    refine XS.fcmpS X0.here hx rfl (hb hby d13_9) rfl (v := (cmpValue (FP.fcmp u1 (2139095040 : UInt32)) .g)) rfl ?_
    show Steps p.tables e below (s₁.setTop (mkF m 10 #[.val (.ref u0), .val (.float u1)] [(.int (cmpValue (FP.fcmp u1 (2139095040 : UInt32)) .g))])) _
    refine XS.ifNo X0.here hx rfl (hb hby d13_10) rfl ((if0 _ _).trans (tlt hc2).2.1) ?_
    show Steps p.tables e below (s₁.setTop (mkF m 13 #[.val (.ref u0), .val (.float u1)] [])) _
    refine XS.aloadN X0.here hx rfl (hb hby d13_13) rfl rfl ?_
    show Steps p.tables e below (s₁.setTop (mkF m 14 #[.val (.ref u0), .val (.float u1)] [(.ref u0)])) _
    refine XS.floadN X0.here hx rfl (hb hby d13_14) rfl ?_
    show Steps p.tables e below (s₁.setTop (mkF m 15 #[.val (.ref u0), .val (.float u1)] [(.float u1), (.ref u0)])) _
    refine st2 _ ?_
    show Steps p.tables e below (T2.setTop (mkF m 18 #[.val (.ref u0), .val (.float u1)] [])) _
    exact X2.returnOut hx Bd.returns (hb hby d13_18) hr
  · show Q13 Z u0 u1 i_flags i_color i_style i_strokeWidth i_strokeCap i_strokeJoin i_typeface i_textSize i_textAlign h0 n0 _ T2.heap _
    rw [e2]
    exact ⟨rfl, N2, KK2, (E_u0.wr W2), (F_flags_u0.other W2 (Or.inr (slot_ne (Or.inl (hw _ (List.mem_of_getElem? (i := 36) rfl))) (Or.inl (hw _ (List.mem_of_getElem? (i := 57) rfl))) (by decide) (t := .int) (t' := .float) (by decide) (by decide)))), (F_color_u0.other W2 (Or.inr (slot_ne (Or.inl (hw _ (List.mem_of_getElem? (i := 39) rfl))) (Or.inl (hw _ (List.mem_of_getElem? (i := 57) rfl))) (by decide) (t := .int) (t' := .float) (by decide) (by decide)))), (F_style_u0.other W2 (Or.inr (slot_ne (Or.inl (hw _ (List.mem_of_getElem? (i := 43) rfl))) (Or.inl (hw _ (List.mem_of_getElem? (i := 57) rfl))) (by decide) (t := (.object "com/example/decorum/decorum/graphics/Paint$Style")) (t' := .float) (by decide) (by decide)))), (F_strokeWidth_u0.other W2 (Or.inr (slot_ne (Or.inl (hw _ (List.mem_of_getElem? (i := 92) rfl))) (Or.inl (hw _ (List.mem_of_getElem? (i := 57) rfl))) (by decide) (t := .float) (t' := .float) (by decide) (by decide)))), (F_strokeCap_u0.other W2 (Or.inr (slot_ne (Or.inl (hw _ (List.mem_of_getElem? (i := 46) rfl))) (Or.inl (hw _ (List.mem_of_getElem? (i := 57) rfl))) (by decide) (t := (.object "com/example/decorum/decorum/graphics/Paint$Cap")) (t' := .float) (by decide) (by decide)))), (F_strokeJoin_u0.other W2 (Or.inr (slot_ne (Or.inl (hw _ (List.mem_of_getElem? (i := 49) rfl))) (Or.inl (hw _ (List.mem_of_getElem? (i := 57) rfl))) (by decide) (t := (.object "com/example/decorum/decorum/graphics/Paint$Join")) (t' := .float) (by decide) (by decide)))), (F_typeface_u0.other W2 (Or.inr (slot_ne (Or.inl (hw _ (List.mem_of_getElem? (i := 54) rfl))) (Or.inl (hw _ (List.mem_of_getElem? (i := 57) rfl))) (by decide) (t := (.object "com/example/decorum/decorum/graphics/Typeface")) (t' := .float) (by decide) (by decide)))), Fw2, (F_textAlign_u0.other W2 (Or.inr (slot_ne (Or.inl (hw _ (List.mem_of_getElem? (i := 60) rfl))) (Or.inl (hw _ (List.mem_of_getElem? (i := 57) rfl))) (by decide) (t := (.object "com/example/decorum/decorum/graphics/Paint$Align")) (t' := .float) (by decide) (by decide))))⟩
theorem d15_0 : decode prog_74_method_4_code 0 = .ok (.aload_n 0, 1) := by decide +kernel
theorem d15_1 : decode prog_74_method_4_code 1 = .ok (.aload_n 1, 1) := by decide +kernel
theorem d15_2 : decode prog_74_method_4_code 2 = .ok (.getfield 12, 3) := by decide +kernel
theorem d15_5 : decode prog_74_method_4_code 5 = .ok (.putfield 12, 3) := by decide +kernel
theorem d15_8 : decode prog_74_method_4_code 8 = .ok (.aload_n 0, 1) := by decide +kernel
theorem d15_9 : decode prog_74_method_4_code 9 = .ok (.aload_n 1, 1) := by decide +kernel
theorem d15_10 : decode prog_74_method_4_code 10 = .ok (.getfield 19, 3) := by decide +kernel
theorem d15_13 : decode prog_74_method_4_code 13 = .ok (.putfield 19, 3) := by decide +kernel
theorem d15_16 : decode prog_74_method_4_code 16 = .ok (.aload_n 0, 1) := by decide +kernel
theorem d15_17 : decode prog_74_method_4_code 17 = .ok (.aload_n 1, 1) := by decide +kernel
theorem d15_18 : decode prog_74_method_4_code 18 = .ok (.getfield 28, 3) := by decide +kernel
theorem d15_21 : decode prog_74_method_4_code 21 = .ok (.putfield 28, 3) := by decide +kernel
theorem d15_24 : decode prog_74_method_4_code 24 = .ok (.aload_n 0, 1) := by decide +kernel
theorem d15_25 : decode prog_74_method_4_code 25 = .ok (.aload_n 1, 1) := by decide +kernel
theorem d15_26 : decode prog_74_method_4_code 26 = .ok (.getfield 76, 3) := by decide +kernel
theorem d15_29 : decode prog_74_method_4_code 29 = .ok (.putfield 76, 3) := by decide +kernel
theorem d15_32 : decode prog_74_method_4_code 32 = .ok (.aload_n 0, 1) := by decide +kernel
theorem d15_33 : decode prog_74_method_4_code 33 = .ok (.aload_n 1, 1) := by decide +kernel
theorem d15_34 : decode prog_74_method_4_code 34 = .ok (.getfield 37, 3) := by decide +kernel
theorem d15_37 : decode prog_74_method_4_code 37 = .ok (.putfield 37, 3) := by decide +kernel
theorem d15_40 : decode prog_74_method_4_code 40 = .ok (.aload_n 0, 1) := by decide +kernel
theorem d15_41 : decode prog_74_method_4_code 41 = .ok (.aload_n 1, 1) := by decide +kernel
theorem d15_42 : decode prog_74_method_4_code 42 = .ok (.getfield 46, 3) := by decide +kernel
theorem d15_45 : decode prog_74_method_4_code 45 = .ok (.putfield 46, 3) := by decide +kernel
theorem d15_48 : decode prog_74_method_4_code 48 = .ok (.aload_n 0, 1) := by decide +kernel
theorem d15_49 : decode prog_74_method_4_code 49 = .ok (.aload_n 1, 1) := by decide +kernel
theorem d15_50 : decode prog_74_method_4_code 50 = .ok (.getfield 55, 3) := by decide +kernel
theorem d15_53 : decode prog_74_method_4_code 53 = .ok (.putfield 55, 3) := by decide +kernel
theorem d15_56 : decode prog_74_method_4_code 56 = .ok (.aload_n 0, 1) := by decide +kernel
theorem d15_57 : decode prog_74_method_4_code 57 = .ok (.aload_n 1, 1) := by decide +kernel
theorem d15_58 : decode prog_74_method_4_code 58 = .ok (.getfield 59, 3) := by decide +kernel
theorem d15_61 : decode prog_74_method_4_code 61 = .ok (.putfield 59, 3) := by decide +kernel
theorem d15_64 : decode prog_74_method_4_code 64 = .ok (.aload_n 0, 1) := by decide +kernel
theorem d15_65 : decode prog_74_method_4_code 65 = .ok (.aload_n 1, 1) := by decide +kernel
theorem d15_66 : decode prog_74_method_4_code 66 = .ok (.getfield 69, 3) := by decide +kernel
theorem d15_69 : decode prog_74_method_4_code 69 = .ok (.putfield 69, 3) := by decide +kernel
theorem d15_72 : decode prog_74_method_4_code 72 = .ok (.return_, 1) := by decide +kernel
theorem ef_15 (m : MethodId) (u0 : Addr) (u1 : Addr) : entryFrame m #[(.ref u0), (.ref u1)] 2 = mkF m 0 #[.val (.ref u0), .val (.ref u1)] [] := by first | (simp [entryFrame, mkF, argsToLocals, Value.category]; done) | rfl
def Q15 (Z : State) (u0 : Addr) (u1 : Addr) (j_flags : Int32) (j_color : Int32) (j_style : Addr) (j_strokeWidth : UInt32) (j_strokeCap : Addr) (j_strokeJoin : Addr) (j_typeface : Addr) (j_textSize : UInt32) (j_textAlign : Addr) (i_flags : Int32) (i_color : Int32) (i_style : Addr) (i_strokeWidth : UInt32) (i_strokeCap : Addr) (i_strokeJoin : Addr) (i_typeface : Addr) (i_textSize : UInt32) (i_textAlign : Addr) (h0 : Heap) (n0 : Nat) (v : Option Value) (h : Heap) (L : List Loc) : Prop := v = none ∧ Fr n0 L ∧ Keep h0 h [u0] ∧ Exa Z h u0 "com/example/decorum/decorum/graphics/Paint" ∧ Fld Z h u0 "com/example/decorum/decorum/graphics/Paint" "flags" "I" (.int j_flags) ∧ Fld Z h u0 "com/example/decorum/decorum/graphics/Paint" "color" "I" (.int j_color) ∧ Fld Z h u0 "com/example/decorum/decorum/graphics/Paint" "style" "Lcom/example/decorum/decorum/graphics/Paint$Style;" (.ref j_style) ∧ Fld Z h u0 "com/example/decorum/decorum/graphics/Paint" "strokeWidth" "F" (.float j_strokeWidth) ∧ Fld Z h u0 "com/example/decorum/decorum/graphics/Paint" "strokeCap" "Lcom/example/decorum/decorum/graphics/Paint$Cap;" (.ref j_strokeCap) ∧ Fld Z h u0 "com/example/decorum/decorum/graphics/Paint" "strokeJoin" "Lcom/example/decorum/decorum/graphics/Paint$Join;" (.ref j_strokeJoin) ∧ Fld Z h u0 "com/example/decorum/decorum/graphics/Paint" "typeface" "Lcom/example/decorum/decorum/graphics/Typeface;" (.ref j_typeface) ∧ Fld Z h u0 "com/example/decorum/decorum/graphics/Paint" "textSize" "F" (.float j_textSize) ∧ Fld Z h u0 "com/example/decorum/decorum/graphics/Paint" "textAlign" "Lcom/example/decorum/decorum/graphics/Paint$Align;" (.ref j_textAlign)
set_option maxRecDepth 65536 in
set_option maxHeartbeats 40000000 in
theorem rm15 (l : Launch) (Z : State) (a0 : Array Value) (hw : ∀ d ∈ tables_1, d.before a0 Z = true) (ws : List Jvm.Cond) (u0 : Addr) (u1 : Addr) (j_flags : Int32) (j_color : Int32) (j_style : Addr) (j_strokeWidth : UInt32) (j_strokeCap : Addr) (j_strokeJoin : Addr) (j_typeface : Addr) (j_textSize : UInt32) (j_textAlign : Addr) (i_flags : Int32) (i_color : Int32) (i_style : Addr) (i_strokeWidth : UInt32) (i_strokeCap : Addr) (i_strokeJoin : Addr) (i_typeface : Addr) (i_textSize : UInt32) (i_textAlign : Addr) (h0 : Heap) (n0 : Nat) (Z0 : n0 ≤ h0.size) (g_u0 : n0 ≤ u0) (E_u0 : Exa Z h0 u0 "com/example/decorum/decorum/graphics/Paint") (F_flags_u0 : Fld Z h0 u0 "com/example/decorum/decorum/graphics/Paint" "flags" "I" (.int i_flags)) (F_color_u0 : Fld Z h0 u0 "com/example/decorum/decorum/graphics/Paint" "color" "I" (.int i_color)) (F_style_u0 : Fld Z h0 u0 "com/example/decorum/decorum/graphics/Paint" "style" "Lcom/example/decorum/decorum/graphics/Paint$Style;" (.ref i_style)) (F_strokeWidth_u0 : Fld Z h0 u0 "com/example/decorum/decorum/graphics/Paint" "strokeWidth" "F" (.float i_strokeWidth)) (F_strokeCap_u0 : Fld Z h0 u0 "com/example/decorum/decorum/graphics/Paint" "strokeCap" "Lcom/example/decorum/decorum/graphics/Paint$Cap;" (.ref i_strokeCap)) (F_strokeJoin_u0 : Fld Z h0 u0 "com/example/decorum/decorum/graphics/Paint" "strokeJoin" "Lcom/example/decorum/decorum/graphics/Paint$Join;" (.ref i_strokeJoin)) (F_typeface_u0 : Fld Z h0 u0 "com/example/decorum/decorum/graphics/Paint" "typeface" "Lcom/example/decorum/decorum/graphics/Typeface;" (.ref i_typeface)) (F_textSize_u0 : Fld Z h0 u0 "com/example/decorum/decorum/graphics/Paint" "textSize" "F" (.float i_textSize)) (F_textAlign_u0 : Fld Z h0 u0 "com/example/decorum/decorum/graphics/Paint" "textAlign" "Lcom/example/decorum/decorum/graphics/Paint$Align;" (.ref i_textAlign)) (E_u1 : Exa Z h0 u1 "com/example/decorum/decorum/graphics/Paint") (G_flags : Fld Z h0 u1 "com/example/decorum/decorum/graphics/Paint" "flags" "I" (.int j_flags)) (G_color : Fld Z h0 u1 "com/example/decorum/decorum/graphics/Paint" "color" "I" (.int j_color)) (G_style : Fld Z h0 u1 "com/example/decorum/decorum/graphics/Paint" "style" "Lcom/example/decorum/decorum/graphics/Paint$Style;" (.ref j_style)) (G_strokeWidth : Fld Z h0 u1 "com/example/decorum/decorum/graphics/Paint" "strokeWidth" "F" (.float j_strokeWidth)) (G_strokeCap : Fld Z h0 u1 "com/example/decorum/decorum/graphics/Paint" "strokeCap" "Lcom/example/decorum/decorum/graphics/Paint$Cap;" (.ref j_strokeCap)) (G_strokeJoin : Fld Z h0 u1 "com/example/decorum/decorum/graphics/Paint" "strokeJoin" "Lcom/example/decorum/decorum/graphics/Paint$Join;" (.ref j_strokeJoin)) (G_typeface : Fld Z h0 u1 "com/example/decorum/decorum/graphics/Paint" "typeface" "Lcom/example/decorum/decorum/graphics/Typeface;" (.ref j_typeface)) (G_textSize : Fld Z h0 u1 "com/example/decorum/decorum/graphics/Paint" "textSize" "F" (.float j_textSize)) (G_textAlign : Fld Z h0 u1 "com/example/decorum/decorum/graphics/Paint" "textAlign" "Lcom/example/decorum/decorum/graphics/Paint$Align;" (.ref j_textAlign)) (hne : u1 ≠ u0) :
    MetFree l (⟨"com/example/decorum/decorum/graphics/Paint", "set", "(Lcom/example/decorum/decorum/graphics/Paint;)V"⟩ : MethodName) (head1 (Jvm.Cond.code (⟨"com/example/decorum/decorum/graphics/Paint", "set", "(Lcom/example/decorum/decorum/graphics/Paint;)V"⟩ : MethodName) prog_74_method_4_code 2 none :: ws) ({ frames := 0, cells := 0, slots := 0, locals := 0 } : Room)) (fun a U => a = #[(.ref u0), (.ref u1)] ∧ Z.Warmed39 U.vm ∧ U.heap = h0) (fun _ _ _ _ _ => True) (fun _ U o U' => ∃ v L, o = .returned v ∧ Q15 Z u0 u1 j_flags j_color j_style j_strokeWidth j_strokeCap j_strokeJoin j_typeface j_textSize j_textAlign i_flags i_color i_style i_strokeWidth i_strokeCap i_strokeJoin i_typeface i_textSize i_textAlign h0 n0 v U'.heap L ∧ FrameEnd U o U' L ({ frames := 0, cells := 0, slots := 0, locals := 0 } : Room).cells ({ frames := 0, cells := 0, slots := 0, locals := 0 } : Room).slots) := by
  refine MetFree.of_bodySF (plainFor_of_name pn_com_example_decorum_decorum_graphics_Paint) hisR ?_
  intro p e s m args below meth c s₁ Bd hml0 hP hK
  obtain ⟨rfl, hZ, hh⟩ := hP
  have hx := Bd.exec
  have hby := Bd.bytes
  have hml : c.maxLocals = 2 := hml0
  have hown : s.vm.findClass "com/example/decorum/decorum/graphics/Paint" = some m.cls := findClass_of_methodNamed Bd.named
  have hnm := (name_of_methodNamed Bd.named Bd.method).1
  have X0 : Stand p l e ({ frames := 0, cells := 0, slots := 0, locals := 0 } : Room) s m #[(.ref u0), (.ref u1)] below meth c s₁ [] 0 0 := Stand.of_body Bd
  have e0 : s₁.heap = h0 := by rw [← hh, Bd.state]; rfl
  have N0 := Fr.nil n0
  have pre0 : ∀ t, Steps p.tables e below (s₁.setTop (mkF m 0 #[.val (.ref u0), .val (.ref u1)] [])) t → Steps p.tables e below (s₁.setTop (entryFrame m #[(.ref u0), (.ref u1)] 2)) t := fun t k => castTop (ef_15 m u0 u1) k
  obtain ⟨T1, X1, e1, st1⟩ := getF X0 hx hZ hown (host := "") (Or.inl (hw _ (List.mem_of_getElem? (i := 35) rfl))) Via.refl e0 G_flags (g := (mkF m 2 #[.val (.ref u0), .val (.ref u1)] [(.ref u1), (.ref u0)])) rfl rfl (hb hby d15_2)
  obtain ⟨T2, h2, X2, e2, W2, st2⟩ := putF X1 hx hZ hown (host := "") (Or.inl (hw _ (List.mem_of_getElem? (i := 35) rfl))) Via.refl e1 F_flags_u0 E_u0 (Or.inl (hw _ (List.mem_of_getElem? (i := 36) rfl))) (hw _ (List.mem_of_getElem? (i := 27) rfl)) (ty := .int) (by decide) rfl rfl (g := (mkF m 5 #[.val (.ref u0), .val (.ref u1)] [(.int j_flags), (.ref u0)])) rfl rfl (hb hby d15_5)
  have Fw2 := F_flags_u0.same W2
  have N2 := Fr.snoc X2 N0 g_u0
  have Z2 : n0 ≤ h2.size := Nat.le_trans Z0 (Keep.of_wr W2).1
  have KK2 := (Keep.refl h0 [u0]).wr W2 (Or.inl (List.mem_of_getElem? (i := 0) rfl))
  obtain ⟨T3, X3, e3, st3⟩ := getF X2 hx hZ hown (host := "") (Or.inl (hw _ (List.mem_of_getElem? (i := 38) rfl))) Via.refl e2 (G_color.other W2 (Or.inl hne)) (g := (mkF m 10 #[.val (.ref u0), .val (.ref u1)] [(.ref u1), (.ref u0)])) rfl rfl (hb hby d15_10)
  obtain ⟨T4, h4, X4, e4, W4, st4⟩ := putF X3 hx hZ hown (host := "") (Or.inl (hw _ (List.mem_of_getElem? (i := 38) rfl))) Via.refl e3 (F_color_u0.other W2 (Or.inr (slot_ne (Or.inl (hw _ (List.mem_of_getElem? (i := 39) rfl))) (Or.inl (hw _ (List.mem_of_getElem? (i := 36) rfl))) (by decide) (t := .int) (t' := .int) (by decide) (by decide)))) (E_u0.wr W2) (Or.inl (hw _ (List.mem_of_getElem? (i := 39) rfl))) (hw _ (List.mem_of_getElem? (i := 27) rfl)) (ty := .int) (by decide) rfl rfl (g := (mkF m 13 #[.val (.ref u0), .val (.ref u1)] [(.int j_color), (.ref u0)])) rfl rfl (hb hby d15_13)
  have Fw4 := (F_color_u0.other W2 (Or.inr (slot_ne (Or.inl (hw _ (List.mem_of_getElem? (i := 39) rfl))) (Or.inl (hw _ (List.mem_of_getElem? (i := 36) rfl))) (by decide) (t := .int) (t' := .int) (by decide) (by decide)))).same W4
  have N4 := Fr.snoc X4 N2 g_u0
  have Z4 : n0 ≤ h4.size := Nat.le_trans Z2 (Keep.of_wr W4).1
  have KK4 := KK2.wr W4 (Or.inl (List.mem_of_getElem? (i := 0) rfl))
  obtain ⟨T5, X5, e5, st5⟩ := getF X4 hx hZ hown (host := "") (Or.inl (hw _ (List.mem_of_getElem? (i := 42) rfl))) Via.refl e4 ((G_style.other W2 (Or.inl hne)).other W4 (Or.inl hne)) (g := (mkF m 18 #[.val (.ref u0), .val (.ref u1)] [(.ref u1), (.ref u0)])) rfl rfl (hb hby d15_18)
  obtain ⟨T6, h6, X6, e6, W6, st6⟩ := putF X5 hx hZ hown (host := "") (Or.inl (hw _ (List.mem_of_getElem? (i := 42) rfl))) Via.refl e5 ((F_style_u0.other W2 (Or.inr (slot_ne (Or.inl (hw _ (List.mem_of_getElem? (i := 43) rfl))) (Or.inl (hw _ (List.mem_of_getElem? (i := 36) rfl))) (by decide) (t := (.object "com/example/decorum/decorum/graphics/Paint$Style")) (t' := .int) (by decide) (by decide)))).other W4 (Or.inr (slot_ne (Or.inl (hw _ (List.mem_of_getElem? (i := 43) rfl))) (Or.inl (hw _ (List.mem_of_getElem? (i := 39) rfl))) (by decide) (t := (.object "com/example/decorum/decorum/graphics/Paint$Style")) (t' := .int) (by decide) (by decide)))) ((E_u0.wr W2).wr W4) (Or.inl (hw _ (List.mem_of_getElem? (i := 43) rfl))) (hw _ (List.mem_of_getElem? (i := 27) rfl)) (ty := (.object "com/example/decorum/decorum/graphics/Paint$Style")) (by decide) rfl rfl (g := (mkF m 21 #[.val (.ref u0), .val (.ref u1)] [(.ref j_style), (.ref u0)])) rfl rfl (hb hby d15_21)
  have Fw6 := ((F_style_u0.other W2 (Or.inr (slot_ne (Or.inl (hw _ (List.mem_of_getElem? (i := 43) rfl))) (Or.inl (hw _ (List.mem_of_getElem? (i := 36) rfl))) (by decide) (t := (.object "com/example/decorum/decorum/graphics/Paint$Style")) (t' := .int) (by decide) (by decide)))).other W4 (Or.inr (slot_ne (Or.inl (hw _ (List.mem_of_getElem? (i := 43) rfl))) (Or.inl (hw _ (List.mem_of_getElem? (i := 39) rfl))) (by decide) (t := (.object "com/example/decorum/decorum/graphics/Paint$Style")) (t' := .int) (by decide) (by decide)))).same W6
  have N6 := Fr.snoc X6 N4 g_u0
  have Z6 : n0 ≤ h6.size := Nat.le_trans Z4 (Keep.of_wr W6).1
  have KK6 := KK4.wr W6 (Or.inl (List.mem_of_getElem? (i := 0) rfl))
  obtain ⟨T7, X7, e7, st7⟩ := getF X6 hx hZ hown (host := "") (Or.inl (hw _ (List.mem_of_getElem? (i := 91) rfl))) Via.refl e6 (((G_strokeWidth.other W2 (Or.inl hne)).other W4 (Or.inl hne)).other W6 (Or.inl hne)) (g := (mkF m 26 #[.val (.ref u0), .val (.ref u1)] [(.ref u1), (.ref u0)])) rfl rfl (hb hby d15_26)
  obtain ⟨T8, h8, X8, e8, W8, st8⟩ := putF X7 hx hZ hown (host := "") (Or.inl (hw _ (List.mem_of_getElem? (i := 91) rfl))) Via.refl e7 (((F_strokeWidth_u0.other W2 (Or.inr (slot_ne (Or.inl (hw _ (List.mem_of_getElem? (i := 92) rfl))) (Or.inl (hw _ (List.mem_of_getElem? (i := 36) rfl))) (by decide) (t := .float) (t' := .int) (by decide) (by decide)))).other W4 (Or.inr (slot_ne (Or.inl (hw _ (List.mem_of_getElem? (i := 92) rfl))) (Or.inl (hw _ (List.mem_of_getElem? (i := 39) rfl))) (by decide) (t := .float) (t' := .int) (by decide) (by decide)))).other W6 (Or.inr (slot_ne (Or.inl (hw _ (List.mem_of_getElem? (i := 92) rfl))) (Or.inl (hw _ (List.mem_of_getElem? (i := 43) rfl))) (by decide) (t := .float) (t' := (.object "com/example/decorum/decorum/graphics/Paint$Style")) (by decide) (by decide)))) (((E_u0.wr W2).wr W4).wr W6) (Or.inl (hw _ (List.mem_of_getElem? (i := 92) rfl))) (hw _ (List.mem_of_getElem? (i := 27) rfl)) (ty := .float) (by decide) rfl rfl (g := (mkF m 29 #[.val (.ref u0), .val (.ref u1)] [(.float j_strokeWidth), (.ref u0)])) rfl rfl (hb hby d15_29)
  have Fw8 := (((F_strokeWidth_u0.other W2 (Or.inr (slot_ne (Or.inl (hw _ (List.mem_of_getElem? (i := 92) rfl))) (Or.inl (hw _ (List.mem_of_getElem? (i := 36) rfl))) (by decide) (t := .float) (t' := .int) (by decide) (by decide)))).other W4 (Or.inr (slot_ne (Or.inl (hw _ (List.mem_of_getElem? (i := 92) rfl))) (Or.inl (hw _ (List.mem_of_getElem? (i := 39) rfl))) (by decide) (t := .float) (t' := .int) (by decide) (by decide)))).other W6 (Or.inr (slot_ne (Or.inl (hw _ (List.mem_of_getElem? (i := 92) rfl))) (Or.inl (hw _ (List.mem_of_getElem? (i := 43) rfl))) (by decide) (t := .float) (t' := (.object "com/example/decorum/decorum/graphics/Paint$Style")) (by decide) (by decide)))).same W8
  have N8 := Fr.snoc X8 N6 g_u0
  have Z8 : n0 ≤ h8.size := Nat.le_trans Z6 (Keep.of_wr W8).1
  have KK8 := KK6.wr W8 (Or.inl (List.mem_of_getElem? (i := 0) rfl))
  obtain ⟨T9, X9, e9, st9⟩ := getF X8 hx hZ hown (host := "") (Or.inl (hw _ (List.mem_of_getElem? (i := 45) rfl))) Via.refl e8 ((((G_strokeCap.other W2 (Or.inl hne)).other W4 (Or.inl hne)).other W6 (Or.inl hne)).other W8 (Or.inl hne)) (g := (mkF m 34 #[.val (.ref u0), .val (.ref u1)] [(.ref u1), (.ref u0)])) rfl rfl (hb hby d15_34)
  obtain ⟨T10, h10, X10, e10, W10, st10⟩ := putF X9 hx hZ hown (host := "") (Or.inl (hw _ (List.mem_of_getElem? (i := 45) rfl))) Via.refl e9 ((((F_strokeCap_u0.other W2 (Or.inr (slot_ne (Or.inl (hw _ (List.mem_of_getElem? (i := 46) rfl))) (Or.inl (hw _ (List.mem_of_getElem? (i := 36) rfl))) (by decide) (t := (.object "com/example/decorum/decorum/graphics/Paint$Cap")) (t' := .int) (by decide) (by decide)))).other W4 (Or.inr (slot_ne (Or.inl (hw _ (List.mem_of_getElem? (i := 46) rfl))) (Or.inl (hw _ (List.mem_of_getElem? (i := 39) rfl))) (by decide) (t := (.object "com/example/decorum/decorum/graphics/Paint$Cap")) (t' := .int) (by decide) (by decide)))).other W6 (Or.inr (slot_ne (Or.inl (hw _ (List.mem_of_getElem? (i := 46) rfl))) (Or.inl (hw _ (List.mem_of_getElem? (i := 43) rfl))) (by decide) (t := (.object "com/example/decorum/decorum/graphics/Paint$Cap")) (t' := (.object "com/example/decorum/decorum/graphics/Paint$Style")) (by decide) (by decide)))).other W8 (Or.inr (slot_ne (Or.inl (hw _ (List.mem_of_getElem? (i := 46) rfl))) (Or.inl (hw _ (List.mem_of_getElem? (i := 92) rfl))) (by decide) (t := (.object "com/example/decorum/decorum/graphics/Paint$Cap")) (t' := .float) (by decide) (by decide)))) ((((E_u0.wr W2).wr W4).wr W6).wr W8) (Or.inl (hw _ (List.mem_of_getElem? (i := 46) rfl))) (hw _ (List.mem_of_getElem? (i := 27) rfl)) (ty := (.object "com/example/decorum/decorum/graphics/Paint$Cap")) (by decide) rfl rfl (g := (mkF m 37 #[.val (.ref u0), .val (.ref u1)] [(.ref j_strokeCap), (.ref u0)])) rfl rfl (hb hby d15_37)
  have Fw10 := ((((F_strokeCap_u0.other W2 (Or.inr (slot_ne (Or.inl (hw _ (List.mem_of_getElem? (i := 46) rfl))) (Or.inl (hw _ (List.mem_of_getElem? (i := 36) rfl))) (by decide) (t := (.object "com/example/decorum/decorum/graphics/Paint$Cap")) (t' := .int) (by decide) (by decide)))).other W4 (Or.inr (slot_ne (Or.inl (hw _ (List.mem_of_getElem? (i := 46) rfl))) (Or.inl (hw _ (List.mem_of_getElem? (i := 39) rfl))) (by decide) (t := (.object "com/example/decorum/decorum/graphics/Paint$Cap")) (t' := .int) (by decide) (by decide)))).other W6 (Or.inr (slot_ne (Or.inl (hw _ (List.mem_of_getElem? (i := 46) rfl))) (Or.inl (hw _ (List.mem_of_getElem? (i := 43) rfl))) (by decide) (t := (.object "com/example/decorum/decorum/graphics/Paint$Cap")) (t' := (.object "com/example/decorum/decorum/graphics/Paint$Style")) (by decide) (by decide)))).other W8 (Or.inr (slot_ne (Or.inl (hw _ (List.mem_of_getElem? (i := 46) rfl))) (Or.inl (hw _ (List.mem_of_getElem? (i := 92) rfl))) (by decide) (t := (.object "com/example/decorum/decorum/graphics/Paint$Cap")) (t' := .float) (by decide) (by decide)))).same W10
  have N10 := Fr.snoc X10 N8 g_u0
  have Z10 : n0 ≤ h10.size := Nat.le_trans Z8 (Keep.of_wr W10).1
  have KK10 := KK8.wr W10 (Or.inl (List.mem_of_getElem? (i := 0) rfl))
  obtain ⟨T11, X11, e11, st11⟩ := getF X10 hx hZ hown (host := "") (Or.inl (hw _ (List.mem_of_getElem? (i := 48) rfl))) Via.refl e10 (((((G_strokeJoin.other W2 (Or.inl hne)).other W4 (Or.inl hne)).other W6 (Or.inl hne)).other W8 (Or.inl hne)).other W10 (Or.inl hne)) (g := (mkF m 42 #[.val (.ref u0), .val (.ref u1)] [(.ref u1), (.ref u0)])) rfl rfl (hb hby d15_42)
  obtain ⟨T12, h12, X12, e12, W12, st12⟩ := putF X11 hx hZ hown (host := "") (Or.inl (hw _ (List.mem_of_getElem? (i := 48) rfl))) Via.refl e11 (((((F_strokeJoin_u0.other W2 (Or.inr (slot_ne (Or.inl (hw _ (List.mem_of_getElem? (i := 49) rfl))) (Or.inl (hw _ (List.mem_of_getElem? (i := 36) rfl))) (by decide) (t := (.object "com/example/decorum/decorum/graphics/Paint$Join")) (t' := .int) (by decide) (by decide)))).other W4 (Or.inr (slot_ne (Or.inl (hw _ (List.mem_of_getElem? (i := 49) rfl))) (Or.inl (hw _ (List.mem_of_getElem? (i := 39) rfl))) (by decide) (t := (.object "com/example/decorum/decorum/graphics/Paint$Join")) (t' := .int) (by decide) (by decide)))).other W6 (Or.inr (slot_ne (Or.inl (hw _ (List.mem_of_getElem? (i := 49) rfl))) (Or.inl (hw _ (List.mem_of_getElem? (i := 43) rfl))) (by decide) (t := (.object "com/example/decorum/decorum/graphics/Paint$Join")) (t' := (.object "com/example/decorum/decorum/graphics/Paint$Style")) (by decide) (by decide)))).other W8 (Or.inr (slot_ne (Or.inl (hw _ (List.mem_of_getElem? (i := 49) rfl))) (Or.inl (hw _ (List.mem_of_getElem? (i := 92) rfl))) (by decide) (t := (.object "com/example/decorum/decorum/graphics/Paint$Join")) (t' := .float) (by decide) (by decide)))).other W10 (Or.inr (slot_ne (Or.inl (hw _ (List.mem_of_getElem? (i := 49) rfl))) (Or.inl (hw _ (List.mem_of_getElem? (i := 46) rfl))) (by decide) (t := (.object "com/example/decorum/decorum/graphics/Paint$Join")) (t' := (.object "com/example/decorum/decorum/graphics/Paint$Cap")) (by decide) (by decide)))) (((((E_u0.wr W2).wr W4).wr W6).wr W8).wr W10) (Or.inl (hw _ (List.mem_of_getElem? (i := 49) rfl))) (hw _ (List.mem_of_getElem? (i := 27) rfl)) (ty := (.object "com/example/decorum/decorum/graphics/Paint$Join")) (by decide) rfl rfl (g := (mkF m 45 #[.val (.ref u0), .val (.ref u1)] [(.ref j_strokeJoin), (.ref u0)])) rfl rfl (hb hby d15_45)
  have Fw12 := (((((F_strokeJoin_u0.other W2 (Or.inr (slot_ne (Or.inl (hw _ (List.mem_of_getElem? (i := 49) rfl))) (Or.inl (hw _ (List.mem_of_getElem? (i := 36) rfl))) (by decide) (t := (.object "com/example/decorum/decorum/graphics/Paint$Join")) (t' := .int) (by decide) (by decide)))).other W4 (Or.inr (slot_ne (Or.inl (hw _ (List.mem_of_getElem? (i := 49) rfl))) (Or.inl (hw _ (List.mem_of_getElem? (i := 39) rfl))) (by decide) (t := (.object "com/example/decorum/decorum/graphics/Paint$Join")) (t' := .int) (by decide) (by decide)))).other W6 (Or.inr (slot_ne (Or.inl (hw _ (List.mem_of_getElem? (i := 49) rfl))) (Or.inl (hw _ (List.mem_of_getElem? (i := 43) rfl))) (by decide) (t := (.object "com/example/decorum/decorum/graphics/Paint$Join")) (t' := (.object "com/example/decorum/decorum/graphics/Paint$Style")) (by decide) (by decide)))).other W8 (Or.inr (slot_ne (Or.inl (hw _ (List.mem_of_getElem? (i := 49) rfl))) (Or.inl (hw _ (List.mem_of_getElem? (i := 92) rfl))) (by decide) (t := (.object "com/example/decorum/decorum/graphics/Paint$Join")) (t' := .float) (by decide) (by decide)))).other W10 (Or.inr (slot_ne (Or.inl (hw _ (List.mem_of_getElem? (i := 49) rfl))) (Or.inl (hw _ (List.mem_of_getElem? (i := 46) rfl))) (by decide) (t := (.object "com/example/decorum/decorum/graphics/Paint$Join")) (t' := (.object "com/example/decorum/decorum/graphics/Paint$Cap")) (by decide) (by decide)))).same W12
  have N12 := Fr.snoc X12 N10 g_u0
  have Z12 : n0 ≤ h12.size := Nat.le_trans Z10 (Keep.of_wr W12).1
  have KK12 := KK10.wr W12 (Or.inl (List.mem_of_getElem? (i := 0) rfl))
  obtain ⟨T13, X13, e13, st13⟩ := getF X12 hx hZ hown (host := "") (Or.inl (hw _ (List.mem_of_getElem? (i := 53) rfl))) Via.refl e12 ((((((G_typeface.other W2 (Or.inl hne)).other W4 (Or.inl hne)).other W6 (Or.inl hne)).other W8 (Or.inl hne)).other W10 (Or.inl hne)).other W12 (Or.inl hne)) (g := (mkF m 50 #[.val (.ref u0), .val (.ref u1)] [(.ref u1), (.ref u0)])) rfl rfl (hb hby d15_50)
  obtain ⟨T14, h14, X14, e14, W14, st14⟩ := putF X13 hx hZ hown (host := "") (Or.inl (hw _ (List.mem_of_getElem? (i := 53) rfl))) Via.refl e13 ((((((F_typeface_u0.other W2 (Or.inr (slot_ne (Or.inl (hw _ (List.mem_of_getElem? (i := 54) rfl))) (Or.inl (hw _ (List.mem_of_getElem? (i := 36) rfl))) (by decide) (t := (.object "com/example/decorum/decorum/graphics/Typeface")) (t' := .int) (by decide) (by decide)))).other W4 (Or.inr (slot_ne (Or.inl (hw _ (List.mem_of_getElem? (i := 54) rfl))) (Or.inl (hw _ (List.mem_of_getElem? (i := 39) rfl))) (by decide) (t := (.object "com/example/decorum/decorum/graphics/Typeface")) (t' := .int) (by decide) (by decide)))).other W6 (Or.inr (slot_ne (Or.inl (hw _ (List.mem_of_getElem? (i := 54) rfl))) (Or.inl (hw _ (List.mem_of_getElem? (i := 43) rfl))) (by decide) (t := (.object "com/example/decorum/decorum/graphics/Typeface")) (t' := (.object "com/example/decorum/decorum/graphics/Paint$Style")) (by decide) (by decide)))).other W8 (Or.inr (slot_ne (Or.inl (hw _ (List.mem_of_getElem? (i := 54) rfl))) (Or.inl (hw _ (List.mem_of_getElem? (i := 92) rfl))) (by decide) (t := (.object "com/example/decorum/decorum/graphics/Typeface")) (t' := .float) (by decide) (by decide)))).other W10 (Or.inr (slot_ne (Or.inl (hw _ (List.mem_of_getElem? (i := 54) rfl))) (Or.inl (hw _ (List.mem_of_getElem? (i := 46) rfl))) (by decide) (t := (.object "com/example/decorum/decorum/graphics/Typeface")) (t' := (.object "com/example/decorum/decorum/graphics/Paint$Cap")) (by decide) (by decide)))).other W12 (Or.inr (slot_ne (Or.inl (hw _ (List.mem_of_getElem? (i := 54) rfl))) (Or.inl (hw _ (List.mem_of_getElem? (i := 49) rfl))) (by decide) (t := (.object "com/example/decorum/decorum/graphics/Typeface")) (t' := (.object "com/example/decorum/decorum/graphics/Paint$Join")) (by decide) (by decide)))) ((((((E_u0.wr W2).wr W4).wr W6).wr W8).wr W10).wr W12) (Or.inl (hw _ (List.mem_of_getElem? (i := 54) rfl))) (hw _ (List.mem_of_getElem? (i := 27) rfl)) (ty := (.object "com/example/decorum/decorum/graphics/Typeface")) (by decide) rfl rfl (g := (mkF m 53 #[.val (.ref u0), .val (.ref u1)] [(.ref j_typeface), (.ref u0)])) rfl rfl (hb hby d15_53)
  have Fw14 := ((((((F_typeface_u0.other W2 (Or.inr (slot_ne (Or.inl (hw _ (List.mem_of_getElem? (i := 54) rfl))) (Or.inl (hw _ (List.mem_of_getElem? (i := 36) rfl))) (by decide) (t := (.object "com/example/decorum/decorum/graphics/Typeface")) (t' := .int) (by decide) (by decide)))).other W4 (Or.inr (slot_ne (Or.inl (hw _ (List.mem_of_getElem? (i := 54) rfl))) (Or.inl (hw _ (List.mem_of_getElem? (i := 39) rfl))) (by decide) (t := (.object "com/example/decorum/decorum/graphics/Typeface")) (t' := .int) (by decide) (by decide)))).other W6 (Or.inr (slot_ne (Or.inl (hw _ (List.mem_of_getElem? (i := 54) rfl))) (Or.inl (hw _ (List.mem_of_getElem? (i := 43) rfl))) (by decide) (t := (.object "com/example/decorum/decorum/graphics/Typeface")) (t' := (.object "com/example/decorum/decorum/graphics/Paint$Style")) (by decide) (by decide)))).other W8 (Or.inr (slot_ne (Or.inl (hw _ (List.mem_of_getElem? (i := 54) rfl))) (Or.inl (hw _ (List.mem_of_getElem? (i := 92) rfl))) (by decide) (t := (.object "com/example/decorum/decorum/graphics/Typeface")) (t' := .float) (by decide) (by decide)))).other W10 (Or.inr (slot_ne (Or.inl (hw _ (List.mem_of_getElem? (i := 54) rfl))) (Or.inl (hw _ (List.mem_of_getElem? (i := 46) rfl))) (by decide) (t := (.object "com/example/decorum/decorum/graphics/Typeface")) (t' := (.object "com/example/decorum/decorum/graphics/Paint$Cap")) (by decide) (by decide)))).other W12 (Or.inr (slot_ne (Or.inl (hw _ (List.mem_of_getElem? (i := 54) rfl))) (Or.inl (hw _ (List.mem_of_getElem? (i := 49) rfl))) (by decide) (t := (.object "com/example/decorum/decorum/graphics/Typeface")) (t' := (.object "com/example/decorum/decorum/graphics/Paint$Join")) (by decide) (by decide)))).same W14
  have N14 := Fr.snoc X14 N12 g_u0
  have Z14 : n0 ≤ h14.size := Nat.le_trans Z12 (Keep.of_wr W14).1
  have KK14 := KK12.wr W14 (Or.inl (List.mem_of_getElem? (i := 0) rfl))
  obtain ⟨T15, X15, e15, st15⟩ := getF X14 hx hZ hown (host := "") (Or.inl (hw _ (List.mem_of_getElem? (i := 56) rfl))) Via.refl e14 (((((((G_textSize.other W2 (Or.inl hne)).other W4 (Or.inl hne)).other W6 (Or.inl hne)).other W8 (Or.inl hne)).other W10 (Or.inl hne)).other W12 (Or.inl hne)).other W14 (Or.inl hne)) (g := (mkF m 58 #[.val (.ref u0), .val (.ref u1)] [(.ref u1), (.ref u0)])) rfl rfl (hb hby d15_58)
  obtain ⟨T16, h16, X16, e16, W16, st16⟩ := putF X15 hx hZ hown (host := "") (Or.inl (hw _ (List.mem_of_getElem? (i := 56) rfl))) Via.refl e15 (((((((F_textSize_u0.other W2 (Or.inr (slot_ne (Or.inl (hw _ (List.mem_of_getElem? (i := 57) rfl))) (Or.inl (hw _ (List.mem_of_getElem? (i := 36) rfl))) (by decide) (t := .float) (t' := .int) (by decide) (by decide)))).other W4 (Or.inr (slot_ne (Or.inl (hw _ (List.mem_of_getElem? (i := 57) rfl))) (Or.inl (hw _ (List.mem_of_getElem? (i := 39) rfl))) (by decide) (t := .float) (t' := .int) (by decide) (by decide)))).other W6 (Or.inr (slot_ne (Or.inl (hw _ (List.mem_of_getElem? (i := 57) rfl))) (Or.inl (hw _ (List.mem_of_getElem? (i := 43) rfl))) (by decide) (t := .float) (t' := (.object "com/example/decorum/decorum/graphics/Paint$Style")) (by decide) (by decide)))).other W8 (Or.inr (slot_ne (Or.inl (hw _ (List.mem_of_getElem? (i := 57) rfl))) (Or.inl (hw _ (List.mem_of_getElem? (i := 92) rfl))) (by decide) (t := .float) (t' := .float) (by decide) (by decide)))).other W10 (Or.inr (slot_ne (Or.inl (hw _ (List.mem_of_getElem? (i := 57) rfl))) (Or.inl (hw _ (List.mem_of_getElem? (i := 46) rfl))) (by decide) (t := .float) (t' := (.object "com/example/decorum/decorum/graphics/Paint$Cap")) (by decide) (by decide)))).other W12 (Or.inr (slot_ne (Or.inl (hw _ (List.mem_of_getElem? (i := 57) rfl))) (Or.inl (hw _ (List.mem_of_getElem? (i := 49) rfl))) (by decide) (t := .float) (t' := (.object "com/example/decorum/decorum/graphics/Paint$Join")) (by decide) (by decide)))).other W14 (Or.inr (slot_ne (Or.inl (hw _ (List.mem_of_getElem? (i := 57) rfl))) (Or.inl (hw _ (List.mem_of_getElem? (i := 54) rfl))) (by decide) (t := .float) (t' := (.object "com/example/decorum/decorum/graphics/Typeface")) (by decide) (by decide)))) (((((((E_u0.wr W2).wr W4).wr W6).wr W8).wr W10).wr W12).wr W14) (Or.inl (hw _ (List.mem_of_getElem? (i := 57) rfl))) (hw _ (List.mem_of_getElem? (i := 27) rfl)) (ty := .float) (by decide) rfl rfl (g := (mkF m 61 #[.val (.ref u0), .val (.ref u1)] [(.float j_textSize), (.ref u0)])) rfl rfl (hb hby d15_61)
  have Fw16 := (((((((F_textSize_u0.other W2 (Or.inr (slot_ne (Or.inl (hw _ (List.mem_of_getElem? (i := 57) rfl))) (Or.inl (hw _ (List.mem_of_getElem? (i := 36) rfl))) (by decide) (t := .float) (t' := .int) (by decide) (by decide)))).other W4 (Or.inr (slot_ne (Or.inl (hw _ (List.mem_of_getElem? (i := 57) rfl))) (Or.inl (hw _ (List.mem_of_getElem? (i := 39) rfl))) (by decide) (t := .float) (t' := .int) (by decide) (by decide)))).other W6 (Or.inr (slot_ne (Or.inl (hw _ (List.mem_of_getElem? (i := 57) rfl))) (Or.inl (hw _ (List.mem_of_getElem? (i := 43) rfl))) (by decide) (t := .float) (t' := (.object "com/example/decorum/decorum/graphics/Paint$Style")) (by decide) (by decide)))).other W8 (Or.inr (slot_ne (Or.inl (hw _ (List.mem_of_getElem? (i := 57) rfl))) (Or.inl (hw _ (List.mem_of_getElem? (i := 92) rfl))) (by decide) (t := .float) (t' := .float) (by decide) (by decide)))).other W10 (Or.inr (slot_ne (Or.inl (hw _ (List.mem_of_getElem? (i := 57) rfl))) (Or.inl (hw _ (List.mem_of_getElem? (i := 46) rfl))) (by decide) (t := .float) (t' := (.object "com/example/decorum/decorum/graphics/Paint$Cap")) (by decide) (by decide)))).other W12 (Or.inr (slot_ne (Or.inl (hw _ (List.mem_of_getElem? (i := 57) rfl))) (Or.inl (hw _ (List.mem_of_getElem? (i := 49) rfl))) (by decide) (t := .float) (t' := (.object "com/example/decorum/decorum/graphics/Paint$Join")) (by decide) (by decide)))).other W14 (Or.inr (slot_ne (Or.inl (hw _ (List.mem_of_getElem? (i := 57) rfl))) (Or.inl (hw _ (List.mem_of_getElem? (i := 54) rfl))) (by decide) (t := .float) (t' := (.object "com/example/decorum/decorum/graphics/Typeface")) (by decide) (by decide)))).same W16
  have N16 := Fr.snoc X16 N14 g_u0
  have Z16 : n0 ≤ h16.size := Nat.le_trans Z14 (Keep.of_wr W16).1
  have KK16 := KK14.wr W16 (Or.inl (List.mem_of_getElem? (i := 0) rfl))
  obtain ⟨T17, X17, e17, st17⟩ := getF X16 hx hZ hown (host := "") (Or.inl (hw _ (List.mem_of_getElem? (i := 59) rfl))) Via.refl e16 ((((((((G_textAlign.other W2 (Or.inl hne)).other W4 (Or.inl hne)).other W6 (Or.inl hne)).other W8 (Or.inl hne)).other W10 (Or.inl hne)).other W12 (Or.inl hne)).other W14 (Or.inl hne)).other W16 (Or.inl hne)) (g := (mkF m 66 #[.val (.ref u0), .val (.ref u1)] [(.ref u1), (.ref u0)])) rfl rfl (hb hby d15_66)
  obtain ⟨T18, h18, X18, e18, W18, st18⟩ := putF X17 hx hZ hown (host := "") (Or.inl (hw _ (List.mem_of_getElem? (i := 59) rfl))) Via.refl e17 ((((((((F_textAlign_u0.other W2 (Or.inr (slot_ne (Or.inl (hw _ (List.mem_of_getElem? (i := 60) rfl))) (Or.inl (hw _ (List.mem_of_getElem? (i := 36) rfl))) (by decide) (t := (.object "com/example/decorum/decorum/graphics/Paint$Align")) (t' := .int) (by decide) (by decide)))).other W4 (Or.inr (slot_ne (Or.inl (hw _ (List.mem_of_getElem? (i := 60) rfl))) (Or.inl (hw _ (List.mem_of_getElem? (i := 39) rfl))) (by decide) (t := (.object "com/example/decorum/decorum/graphics/Paint$Align")) (t' := .int) (by decide) (by decide)))).other W6 (Or.inr (slot_ne (Or.inl (hw _ (List.mem_of_getElem? (i := 60) rfl))) (Or.inl (hw _ (List.mem_of_getElem? (i := 43) rfl))) (by decide) (t := (.object "com/example/decorum/decorum/graphics/Paint$Align")) (t' := (.object "com/example/decorum/decorum/graphics/Paint$Style")) (by decide) (by decide)))).other W8 (Or.inr (slot_ne (Or.inl (hw _ (List.mem_of_getElem? (i := 60) rfl))) (Or.inl (hw _ (List.mem_of_getElem? (i := 92) rfl))) (by decide) (t := (.object "com/example/decorum/decorum/graphics/Paint$Align")) (t' := .float) (by decide) (by decide)))).other W10 (Or.inr (slot_ne (Or.inl (hw _ (List.mem_of_getElem? (i := 60) rfl))) (Or.inl (hw _ (List.mem_of_getElem? (i := 46) rfl))) (by decide) (t := (.object "com/example/decorum/decorum/graphics/Paint$Align")) (t' := (.object "com/example/decorum/decorum/graphics/Paint$Cap")) (by decide) (by decide)))).other W12 (Or.inr (slot_ne (Or.inl (hw _ (List.mem_of_getElem? (i := 60) rfl))) (Or.inl (hw _ (List.mem_of_getElem? (i := 49) rfl))) (by decide) (t := (.object "com/example/decorum/decorum/graphics/Paint$Align")) (t' := (.object "com/example/decorum/decorum/graphics/Paint$Join")) (by decide) (by decide)))).other W14 (Or.inr (slot_ne (Or.inl (hw _ (List.mem_of_getElem? (i := 60) rfl))) (Or.inl (hw _ (List.mem_of_getElem? (i := 54) rfl))) (by decide) (t := (.object "com/example/decorum/decorum/graphics/Paint$Align")) (t' := (.object "com/example/decorum/decorum/graphics/Typeface")) (by decide) (by decide)))).other W16 (Or.inr (slot_ne (Or.inl (hw _ (List.mem_of_getElem? (i := 60) rfl))) (Or.inl (hw _ (List.mem_of_getElem? (i := 57) rfl))) (by decide) (t := (.object "com/example/decorum/decorum/graphics/Paint$Align")) (t' := .float) (by decide) (by decide)))) ((((((((E_u0.wr W2).wr W4).wr W6).wr W8).wr W10).wr W12).wr W14).wr W16) (Or.inl (hw _ (List.mem_of_getElem? (i := 60) rfl))) (hw _ (List.mem_of_getElem? (i := 27) rfl)) (ty := (.object "com/example/decorum/decorum/graphics/Paint$Align")) (by decide) rfl rfl (g := (mkF m 69 #[.val (.ref u0), .val (.ref u1)] [(.ref j_textAlign), (.ref u0)])) rfl rfl (hb hby d15_69)
  have Fw18 := ((((((((F_textAlign_u0.other W2 (Or.inr (slot_ne (Or.inl (hw _ (List.mem_of_getElem? (i := 60) rfl))) (Or.inl (hw _ (List.mem_of_getElem? (i := 36) rfl))) (by decide) (t := (.object "com/example/decorum/decorum/graphics/Paint$Align")) (t' := .int) (by decide) (by decide)))).other W4 (Or.inr (slot_ne (Or.inl (hw _ (List.mem_of_getElem? (i := 60) rfl))) (Or.inl (hw _ (List.mem_of_getElem? (i := 39) rfl))) (by decide) (t := (.object "com/example/decorum/decorum/graphics/Paint$Align")) (t' := .int) (by decide) (by decide)))).other W6 (Or.inr (slot_ne (Or.inl (hw _ (List.mem_of_getElem? (i := 60) rfl))) (Or.inl (hw _ (List.mem_of_getElem? (i := 43) rfl))) (by decide) (t := (.object "com/example/decorum/decorum/graphics/Paint$Align")) (t' := (.object "com/example/decorum/decorum/graphics/Paint$Style")) (by decide) (by decide)))).other W8 (Or.inr (slot_ne (Or.inl (hw _ (List.mem_of_getElem? (i := 60) rfl))) (Or.inl (hw _ (List.mem_of_getElem? (i := 92) rfl))) (by decide) (t := (.object "com/example/decorum/decorum/graphics/Paint$Align")) (t' := .float) (by decide) (by decide)))).other W10 (Or.inr (slot_ne (Or.inl (hw _ (List.mem_of_getElem? (i := 60) rfl))) (Or.inl (hw _ (List.mem_of_getElem? (i := 46) rfl))) (by decide) (t := (.object "com/example/decorum/decorum/graphics/Paint$Align")) (t' := (.object "com/example/decorum/decorum/graphics/Paint$Cap")) (by decide) (by decide)))).other W12 (Or.inr (slot_ne (Or.inl (hw _ (List.mem_of_getElem? (i := 60) rfl))) (Or.inl (hw _ (List.mem_of_getElem? (i := 49) rfl))) (by decide) (t := (.object "com/example/decorum/decorum/graphics/Paint$Align")) (t' := (.object "com/example/decorum/decorum/graphics/Paint$Join")) (by decide) (by decide)))).other W14 (Or.inr (slot_ne (Or.inl (hw _ (List.mem_of_getElem? (i := 60) rfl))) (Or.inl (hw _ (List.mem_of_getElem? (i := 54) rfl))) (by decide) (t := (.object "com/example/decorum/decorum/graphics/Paint$Align")) (t' := (.object "com/example/decorum/decorum/graphics/Typeface")) (by decide) (by decide)))).other W16 (Or.inr (slot_ne (Or.inl (hw _ (List.mem_of_getElem? (i := 60) rfl))) (Or.inl (hw _ (List.mem_of_getElem? (i := 57) rfl))) (by decide) (t := (.object "com/example/decorum/decorum/graphics/Paint$Align")) (t' := .float) (by decide) (by decide)))).same W18
  have N18 := Fr.snoc X18 N16 g_u0
  have Z18 : n0 ≤ h18.size := Nat.le_trans Z16 (Keep.of_wr W18).1
  have KK18 := KK16.wr W18 (Or.inl (List.mem_of_getElem? (i := 0) rfl))
  obtain ⟨fs, hr, hrun, hended, hW, hsame⟩ := X18.leave (v := none) (fun _ => rfl)
  refine ⟨_, _, pre0 _ ?_, hrun, hended, _, _, rfl, ?_, ⟨_, rfl⟩, hW, hsame.mono (by decide) (by decide)⟩
  · show Steps p.tables e below (s₁.setTop (mkF m 0 #[.val (.ref u0), .val (.ref u1)] [])) _
    refine XS.aloadN X0.here hx rfl (hb hby d15_0) rfl rfl ?_
    show Steps p.tables e below (s₁.setTop (mkF m 1 #[.val (.ref u0), .val (.ref u1)] [(.ref u0)])) _
    refine XS.aloadN X0.here hx rfl (hb hby d15_1) rfl rfl ?_
    show Steps p.tables e below (s₁.setTop (mkF m 2 #[.val (.ref u0), .val (.ref u1)] [(.ref u1), (.ref u0)])) _
    refine st1 _ ?_
    show Steps p.tables e below (T1.setTop (mkF m 5 #[.val (.ref u0), .val (.ref u1)] [(.int j_flags), (.ref u0)])) _
    refine st2 _ ?_
    show Steps p.tables e below (T2.setTop (mkF m 8 #[.val (.ref u0), .val (.ref u1)] [])) _
    refine XS.aloadN X2.here hx rfl (hb hby d15_8) rfl rfl ?_
    show Steps p.tables e below (T2.setTop (mkF m 9 #[.val (.ref u0), .val (.ref u1)] [(.ref u0)])) _
    refine XS.aloadN X2.here hx rfl (hb hby d15_9) rfl rfl ?_
    show Steps p.tables e below (T2.setTop (mkF m 10 #[.val (.ref u0), .val (.ref u1)] [(.ref u1), (.ref u0)])) _
    refine st3 _ ?_
    show Steps p.tables e below (T3.setTop (mkF m 13 #[.val (.ref u0), .val (.ref u1)] [(.int j_color), (.ref u0)])) _
    refine st4 _ ?_
    show Steps p.tables e below (T4.setTop (mkF m 16 #[.val (.ref u0), .val (.ref u1)] [])) _
    refine XS.aloadN X4.here hx rfl (hb hby d15_16) rfl rfl ?_
    show Steps p.tables e below (T4.setTop (mkF m 17 #[.val (.ref u0), .val (.ref u1)] [(.ref u0)])) _
    refine XS.aloadN X4.here hx rfl (hb hby d15_17) rfl rfl ?_
    show Steps p.tables e below (T4.setTop (mkF m 18 #[.val (.ref u0), .val (.ref u1)] [(.ref u1), (.ref u0)])) _
    refine st5 _ ?_
    show Steps p.tables e below (T5.setTop (mkF m 21 #[.val (.ref u0), .val (.ref u1)] [(.ref j_style), (.ref u0)])) _
    refine st6 _ ?_
    show Steps p.tables e below (T6.setTop (mkF m 24 #[.val (.ref u0), .val (.ref u1)] [])) _
    refine XS.aloadN X6.here hx rfl (hb hby d15_24) rfl rfl ?_
    show Steps p.tables e below (T6.setTop (mkF m 25 #[.val (.ref u0), .val (.ref u1)] [(.ref u0)])) _
    refine XS.aloadN X6.here hx rfl (hb hby d15_25) rfl rfl ?_
    show Steps p.tables e below (T6.setTop (mkF m 26 #[.val (.ref u0), .val (.ref u1)] [(.ref u1), (.ref u0)])) _
    refine st7 _ ?_
    show Steps p.tables e below (T7.setTop (mkF m 29 #[.val (.ref u0), .val (.ref u1)] [(.float j_strokeWidth), (.ref u0)])) _
    refine st8 _ ?_
    show Steps p.tables e below (T8.setTop (mkF m 32 #[.val (.ref u0), .val (.ref u1)] [])) _
    refine XS.aloadN X8.here hx rfl (hb hby d15_32) rfl rfl ?_
    show Steps p.tables e below (T8.setTop (mkF m 33 #[.val (.ref u0), .val (.ref u1)] [(.ref u0)])) _
    refine XS.aloadN X8.here hx rfl (hb hby d15_33) rfl rfl ?_
    show Steps p.tables e below (T8.setTop (mkF m 34 #[.val (.ref u0), .val (.ref u1)] [(.ref u1), (.ref u0)])) _
    refine st9 _ ?_
    show Steps p.tables e below (T9.setTop (mkF m 37 #[.val (.ref u0), .val (.ref u1)] [(.ref j_strokeCap), (.ref u0)])) _
    refine st10 _ ?_
    show Steps p.tables e below (T10.setTop (mkF m 40 #[.val (.ref u0), .val (.ref u1)] [])) _
    refine XS.aloadN X10.here hx rfl (hb hby d15_40) rfl rfl ?_
    show Steps p.tables e below (T10.setTop (mkF m 41 #[.val (.ref u0), .val (.ref u1)] [(.ref u0)])) _
    refine XS.aloadN X10.here hx rfl (hb hby d15_41) rfl rfl ?_
    show Steps p.tables e below (T10.setTop (mkF m 42 #[.val (.ref u0), .val (.ref u1)] [(.ref u1), (.ref u0)])) _
    refine st11 _ ?_
    show Steps p.tables e below (T11.setTop (mkF m 45 #[.val (.ref u0), .val (.ref u1)] [(.ref j_strokeJoin), (.ref u0)])) _
    refine st12 _ ?_
    show Steps p.tables e below (T12.setTop (mkF m 48 #[.val (.ref u0), .val (.ref u1)] [])) _
    refine XS.aloadN X12.here hx rfl (hb hby d15_48) rfl rfl ?_
    show Steps p.tables e below (T12.setTop (mkF m 49 #[.val (.ref u0), .val (.ref u1)] [(.ref u0)])) _
    refine XS.aloadN X12.here hx rfl (hb hby d15_49) rfl rfl ?_
    show Steps p.tables e below (T12.setTop (mkF m 50 #[.val (.ref u0), .val (.ref u1)] [(.ref u1), (.ref u0)])) _
    refine st13 _ ?_
    show Steps p.tables e below (T13.setTop (mkF m 53 #[.val (.ref u0), .val (.ref u1)] [(.ref j_typeface), (.ref u0)])) _
    refine st14 _ ?_
    show Steps p.tables e below (T14.setTop (mkF m 56 #[.val (.ref u0), .val (.ref u1)] [])) _
    refine XS.aloadN X14.here hx rfl (hb hby d15_56) rfl rfl ?_
    show Steps p.tables e below (T14.setTop (mkF m 57 #[.val (.ref u0), .val (.ref u1)] [(.ref u0)])) _
    refine XS.aloadN X14.here hx rfl (hb hby d15_57) rfl rfl ?_
    show Steps p.tables e below (T14.setTop (mkF m 58 #[.val (.ref u0), .val (.ref u1)] [(.ref u1), (.ref u0)])) _
    refine st15 _ ?_
    show Steps p.tables e below (T15.setTop (mkF m 61 #[.val (.ref u0), .val (.ref u1)] [(.float j_textSize), (.ref u0)])) _
    refine st16 _ ?_
    show Steps p.tables e below (T16.setTop (mkF m 64 #[.val (.ref u0), .val (.ref u1)] [])) _
    refine XS.aloadN X16.here hx rfl (hb hby d15_64) rfl rfl ?_
    show Steps p.tables e below (T16.setTop (mkF m 65 #[.val (.ref u0), .val (.ref u1)] [(.ref u0)])) _
    refine XS.aloadN X16.here hx rfl (hb hby d15_65) rfl rfl ?_
    show Steps p.tables e below (T16.setTop (mkF m 66 #[.val (.ref u0), .val (.ref u1)] [(.ref u1), (.ref u0)])) _
    refine st17 _ ?_
    show Steps p.tables e below (T17.setTop (mkF m 69 #[.val (.ref u0), .val (.ref u1)] [(.ref j_textAlign), (.ref u0)])) _
    refine st18 _ ?_
    show Steps p.tables e below (T18.setTop (mkF m 72 #[.val (.ref u0), .val (.ref u1)] [])) _
    exact X18.returnOut hx Bd.returns (hb hby d15_72) hr
  · show Q15 Z u0 u1 j_flags j_color j_style j_strokeWidth j_strokeCap j_strokeJoin j_typeface j_textSize j_textAlign i_flags i_color i_style i_strokeWidth i_strokeCap i_strokeJoin i_typeface i_textSize i_textAlign h0 n0 _ T18.heap _
    rw [e18]
    exact ⟨rfl, N18, KK18, (((((((((E_u0.wr W2).wr W4).wr W6).wr W8).wr W10).wr W12).wr W14).wr W16).wr W18), ((((((((Fw2.other W4 (Or.inr (slot_ne (Or.inl (hw _ (List.mem_of_getElem? (i := 36) rfl))) (Or.inl (hw _ (List.mem_of_getElem? (i := 39) rfl))) (by decide) (t := .int) (t' := .int) (by decide) (by decide)))).other W6 (Or.inr (slot_ne (Or.inl (hw _ (List.mem_of_getElem? (i := 36) rfl))) (Or.inl (hw _ (List.mem_of_getElem? (i := 43) rfl))) (by decide) (t := .int) (t' := (.object "com/example/decorum/decorum/graphics/Paint$Style")) (by decide) (by decide)))).other W8 (Or.inr (slot_ne (Or.inl (hw _ (List.mem_of_getElem? (i := 36) rfl))) (Or.inl (hw _ (List.mem_of_getElem? (i := 92) rfl))) (by decide) (t := .int) (t' := .float) (by decide) (by decide)))).other W10 (Or.inr (slot_ne (Or.inl (hw _ (List.mem_of_getElem? (i := 36) rfl))) (Or.inl (hw _ (List.mem_of_getElem? (i := 46) rfl))) (by decide) (t := .int) (t' := (.object "com/example/decorum/decorum/graphics/Paint$Cap")) (by decide) (by decide)))).other W12 (Or.inr (slot_ne (Or.inl (hw _ (List.mem_of_getElem? (i := 36) rfl))) (Or.inl (hw _ (List.mem_of_getElem? (i := 49) rfl))) (by decide) (t := .int) (t' := (.object "com/example/decorum/decorum/graphics/Paint$Join")) (by decide) (by decide)))).other W14 (Or.inr (slot_ne (Or.inl (hw _ (List.mem_of_getElem? (i := 36) rfl))) (Or.inl (hw _ (List.mem_of_getElem? (i := 54) rfl))) (by decide) (t := .int) (t' := (.object "com/example/decorum/decorum/graphics/Typeface")) (by decide) (by decide)))).other W16 (Or.inr (slot_ne (Or.inl (hw _ (List.mem_of_getElem? (i := 36) rfl))) (Or.inl (hw _ (List.mem_of_getElem? (i := 57) rfl))) (by decide) (t := .int) (t' := .float) (by decide) (by decide)))).other W18 (Or.inr (slot_ne (Or.inl (hw _ (List.mem_of_getElem? (i := 36) rfl))) (Or.inl (hw _ (List.mem_of_getElem? (i := 60) rfl))) (by decide) (t := .int) (t' := (.object "com/example/decorum/decorum/graphics/Paint$Align")) (by decide) (by decide)))), (((((((Fw4.other W6 (Or.inr (slot_ne (Or.inl (hw _ (List.mem_of_getElem? (i := 39) rfl))) (Or.inl (hw _ (List.mem_of_getElem? (i := 43) rfl))) (by decide) (t := .int) (t' := (.object "com/example/decorum/decorum/graphics/Paint$Style")) (by decide) (by decide)))).other W8 (Or.inr (slot_ne (Or.inl (hw _ (List.mem_of_getElem? (i := 39) rfl))) (Or.inl (hw _ (List.mem_of_getElem? (i := 92) rfl))) (by decide) (t := .int) (t' := .float) (by decide) (by decide)))).other W10 (Or.inr (slot_ne (Or.inl (hw _ (List.mem_of_getElem? (i := 39) rfl))) (Or.inl (hw _ (List.mem_of_getElem? (i := 46) rfl))) (by decide) (t := .int) (t' := (.object "com/example/decorum/decorum/graphics/Paint$Cap")) (by decide) (by decide)))).other W12 (Or.inr (slot_ne (Or.inl (hw _ (List.mem_of_getElem? (i := 39) rfl))) (Or.inl (hw _ (List.mem_of_getElem? (i := 49) rfl))) (by decide) (t := .int) (t' := (.object "com/example/decorum/decorum/graphics/Paint$Join")) (by decide) (by decide)))).other W14 (Or.inr (slot_ne (Or.inl (hw _ (List.mem_of_getElem? (i := 39) rfl))) (Or.inl (hw _ (List.mem_of_getElem? (i := 54) rfl))) (by decide) (t := .int) (t' := (.object "com/example/decorum/decorum/graphics/Typeface")) (by decide) (by decide)))).other W16 (Or.inr (slot_ne (Or.inl (hw _ (List.mem_of_getElem? (i := 39) rfl))) (Or.inl (hw _ (List.mem_of_getElem? (i := 57) rfl))) (by decide) (t := .int) (t' := .float) (by decide) (by decide)))).other W18 (Or.inr (slot_ne (Or.inl (hw _ (List.mem_of_getElem? (i := 39) rfl))) (Or.inl (hw _ (List.mem_of_getElem? (i := 60) rfl))) (by decide) (t := .int) (t' := (.object "com/example/decorum/decorum/graphics/Paint$Align")) (by decide) (by decide)))), ((((((Fw6.other W8 (Or.inr (slot_ne (Or.inl (hw _ (List.mem_of_getElem? (i := 43) rfl))) (Or.inl (hw _ (List.mem_of_getElem? (i := 92) rfl))) (by decide) (t := (.object "com/example/decorum/decorum/graphics/Paint$Style")) (t' := .float) (by decide) (by decide)))).other W10 (Or.inr (slot_ne (Or.inl (hw _ (List.mem_of_getElem? (i := 43) rfl))) (Or.inl (hw _ (List.mem_of_getElem? (i := 46) rfl))) (by decide) (t := (.object "com/example/decorum/decorum/graphics/Paint$Style")) (t' := (.object "com/example/decorum/decorum/graphics/Paint$Cap")) (by decide) (by decide)))).other W12 (Or.inr (slot_ne (Or.inl (hw _ (List.mem_of_getElem? (i := 43) rfl))) (Or.inl (hw _ (List.mem_of_getElem? (i := 49) rfl))) (by decide) (t := (.object "com/example/decorum/decorum/graphics/Paint$Style")) (t' := (.object "com/example/decorum/decorum/graphics/Paint$Join")) (by decide) (by decide)))).other W14 (Or.inr (slot_ne (Or.inl (hw _ (List.mem_of_getElem? (i := 43) rfl))) (Or.inl (hw _ (List.mem_of_getElem? (i := 54) rfl))) (by decide) (t := (.object "com/example/decorum/decorum/graphics/Paint$Style")) (t' := (.object "com/example/decorum/decorum/graphics/Typeface")) (by decide) (by decide)))).other W16 (Or.inr (slot_ne (Or.inl (hw _ (List.mem_of_getElem? (i := 43) rfl))) (Or.inl (hw _ (List.mem_of_getElem? (i := 57) rfl))) (by decide) (t := (.object "com/example/decorum/decorum/graphics/Paint$Style")) (t' := .float) (by decide) (by decide)))).other W18 (Or.inr (slot_ne (Or.inl (hw _ (List.mem_of_getElem? (i := 43) rfl))) (Or.inl (hw _ (List.mem_of_getElem? (i := 60) rfl))) (by decide) (t := (.object "com/example/decorum/decorum/graphics/Paint$Style")) (t' := (.object "com/example/decorum/decorum/graphics/Paint$Align")) (by decide) (by decide)))), (((((Fw8.other W10 (Or.inr (slot_ne (Or.inl (hw _ (List.mem_of_getElem? (i := 92) rfl))) (Or.inl (hw _ (List.mem_of_getElem? (i := 46) rfl))) (by decide) (t := .float) (t' := (.object "com/example/decorum/decorum/graphics/Paint$Cap")) (by decide) (by decide)))).other W12 (Or.inr (slot_ne (Or.inl (hw _ (List.mem_of_getElem? (i := 92) rfl))) (Or.inl (hw _ (List.mem_of_getElem? (i := 49) rfl))) (by decide) (t := .float) (t' := (.object "com/example/decorum/decorum/graphics/Paint$Join")) (by decide) (by decide)))).other W14 (Or.inr (slot_ne (Or.inl (hw _ (List.mem_of_getElem? (i := 92) rfl))) (Or.inl (hw _ (List.mem_of_getElem? (i := 54) rfl))) (by decide) (t := .float) (t' := (.object "com/example/decorum/decorum/graphics/Typeface")) (by decide) (by decide)))).other W16 (Or.inr (slot_ne (Or.inl (hw _ (List.mem_of_getElem? (i := 92) rfl))) (Or.inl (hw _ (List.mem_of_getElem? (i := 57) rfl))) (by decide) (t := .float) (t' := .float) (by decide) (by decide)))).other W18 (Or.inr (slot_ne (Or.inl (hw _ (List.mem_of_getElem? (i := 92) rfl))) (Or.inl (hw _ (List.mem_of_getElem? (i := 60) rfl))) (by decide) (t := .float) (t' := (.object "com/example/decorum/decorum/graphics/Paint$Align")) (by decide) (by decide)))), ((((Fw10.other W12 (Or.inr (slot_ne (Or.inl (hw _ (List.mem_of_getElem? (i := 46) rfl))) (Or.inl (hw _ (List.mem_of_getElem? (i := 49) rfl))) (by decide) (t := (.object "com/example/decorum/decorum/graphics/Paint$Cap")) (t' := (.object "com/example/decorum/decorum/graphics/Paint$Join")) (by decide) (by decide)))).other W14 (Or.inr (slot_ne (Or.inl (hw _ (List.mem_of_getElem? (i := 46) rfl))) (Or.inl (hw _ (List.mem_of_getElem? (i := 54) rfl))) (by decide) (t := (.object "com/example/decorum/decorum/graphics/Paint$Cap")) (t' := (.object "com/example/decorum/decorum/graphics/Typeface")) (by decide) (by decide)))).other W16 (Or.inr (slot_ne (Or.inl (hw _ (List.mem_of_getElem? (i := 46) rfl))) (Or.inl (hw _ (List.mem_of_getElem? (i := 57) rfl))) (by decide) (t := (.object "com/example/decorum/decorum/graphics/Paint$Cap")) (t' := .float) (by decide) (by decide)))).other W18 (Or.inr (slot_ne (Or.inl (hw _ (List.mem_of_getElem? (i := 46) rfl))) (Or.inl (hw _ (List.mem_of_getElem? (i := 60) rfl))) (by decide) (t := (.object "com/example/decorum/decorum/graphics/Paint$Cap")) (t' := (.object "com/example/decorum/decorum/graphics/Paint$Align")) (by decide) (by decide)))), (((Fw12.other W14 (Or.inr (slot_ne (Or.inl (hw _ (List.mem_of_getElem? (i := 49) rfl))) (Or.inl (hw _ (List.mem_of_getElem? (i := 54) rfl))) (by decide) (t := (.object "com/example/decorum/decorum/graphics/Paint$Join")) (t' := (.object "com/example/decorum/decorum/graphics/Typeface")) (by decide) (by decide)))).other W16 (Or.inr (slot_ne (Or.inl (hw _ (List.mem_of_getElem? (i := 49) rfl))) (Or.inl (hw _ (List.mem_of_getElem? (i := 57) rfl))) (by decide) (t := (.object "com/example/decorum/decorum/graphics/Paint$Join")) (t' := .float) (by decide) (by decide)))).other W18 (Or.inr (slot_ne (Or.inl (hw _ (List.mem_of_getElem? (i := 49) rfl))) (Or.inl (hw _ (List.mem_of_getElem? (i := 60) rfl))) (by decide) (t := (.object "com/example/decorum/decorum/graphics/Paint$Join")) (t' := (.object "com/example/decorum/decorum/graphics/Paint$Align")) (by decide) (by decide)))), ((Fw14.other W16 (Or.inr (slot_ne (Or.inl (hw _ (List.mem_of_getElem? (i := 54) rfl))) (Or.inl (hw _ (List.mem_of_getElem? (i := 57) rfl))) (by decide) (t := (.object "com/example/decorum/decorum/graphics/Typeface")) (t' := .float) (by decide) (by decide)))).other W18 (Or.inr (slot_ne (Or.inl (hw _ (List.mem_of_getElem? (i := 54) rfl))) (Or.inl (hw _ (List.mem_of_getElem? (i := 60) rfl))) (by decide) (t := (.object "com/example/decorum/decorum/graphics/Typeface")) (t' := (.object "com/example/decorum/decorum/graphics/Paint$Align")) (by decide) (by decide)))), (Fw16.other W18 (Or.inr (slot_ne (Or.inl (hw _ (List.mem_of_getElem? (i := 57) rfl))) (Or.inl (hw _ (List.mem_of_getElem? (i := 60) rfl))) (by decide) (t := .float) (t' := (.object "com/example/decorum/decorum/graphics/Paint$Align")) (by decide) (by decide)))), Fw18⟩
theorem d16_0 : decode prog_74_method_5_code 0 = .ok (.aload_n 0, 1) := by decide +kernel
theorem d16_1 : decode prog_74_method_5_code 1 = .ok (.getfield 12, 3) := by decide +kernel
theorem d16_4 : decode prog_74_method_5_code 4 = .ok (.ireturn, 1) := by decide +kernel
theorem ef_16 (m : MethodId) (u0 : Addr) : entryFrame m #[(.ref u0)] 1 = mkF m 0 #[.val (.ref u0)] [] := by first | (simp [entryFrame, mkF, argsToLocals, Value.category]; done) | rfl
def Q16 (Z : State) (u0 : Addr) (w1 : Int32) (h0 : Heap) (n0 : Nat) (v : Option Value) (h : Heap) (L : List Loc) : Prop := v = some (.int w1) ∧ Fr n0 L ∧ h = h0
set_option maxRecDepth 65536 in
set_option maxHeartbeats 40000000 in
theorem rm16 (l : Launch) (Z : State) (a0 : Array Value) (hw : ∀ d ∈ tables_1, d.before a0 Z = true) (ws : List Jvm.Cond) (u0 : Addr) (w1 : Int32) (h0 : Heap) (n0 : Nat) (Z0 : n0 ≤ h0.size) (F_u0 : Fld Z h0 u0 "com/example/decorum/decorum/graphics/Paint" "flags" "I" (.int w1)) :
    MetFree l (⟨"com/example/decorum/decorum/graphics/Paint", "getFlags", "()I"⟩ : MethodName) (head1 (Jvm.Cond.code (⟨"com/example/decorum/decorum/graphics/Paint", "getFlags", "()I"⟩ : MethodName) prog_74_method_5_code 1 (some .int) :: ws) ({ frames := 0, cells := 0, slots := 0, locals := 0 } : Room)) (fun a U => a = #[(.ref u0)] ∧ Z.Warmed39 U.vm ∧ U.heap = h0) (fun _ _ _ _ _ => True) (fun _ U o U' => ∃ v L, o = .returned v ∧ Q16 Z u0 w1 h0 n0 v U'.heap L ∧ FrameEnd U o U' L ({ frames := 0, cells := 0, slots := 0, locals := 0 } : Room).cells ({ frames := 0, cells := 0, slots := 0, locals := 0 } : Room).slots) := by
  refine MetFree.of_bodySF (plainFor_of_name pn_com_example_decorum_decorum_graphics_Paint) hisR ?_
  intro p e s m args below meth c s₁ Bd hml0 hP hK
  obtain ⟨rfl, hZ, hh⟩ := hP
  have hx := Bd.exec
  have hby := Bd.bytes
  have hml : c.maxLocals = 1 := hml0
  have hown : s.vm.findClass "com/example/decorum/decorum/graphics/Paint" = some m.cls := findClass_of_methodNamed Bd.named
  have hnm := (name_of_methodNamed Bd.named Bd.method).1
  have X0 : Stand p l e ({ frames := 0, cells := 0, slots := 0, locals := 0 } : Room) s m #[(.ref u0)] below meth c s₁ [] 0 0 := Stand.of_body Bd
  have e0 : s₁.heap = h0 := by rw [← hh, Bd.state]; rfl
  have N0 := Fr.nil n0
  have pre0 : ∀ t, Steps p.tables e below (s₁.setTop (mkF m 0 #[.val (.ref u0)] [])) t → Steps p.tables e below (s₁.setTop (entryFrame m #[(.ref u0)] 1)) t := fun t k => castTop (ef_16 m u0) k
  obtain ⟨T1, X1, e1, st1⟩ := getF X0 hx hZ hown (host := "") (Or.inl (hw _ (List.mem_of_getElem? (i := 35) rfl))) Via.refl e0 F_u0 (g := (mkF m 1 #[.val (.ref u0)] [(.ref u0)])) rfl rfl (hb hby d16_1)
  obtain ⟨fs, hr, hrun, hended, hW, hsame⟩ := X1.leave (v := some (.int w1)) (fun h => by rw [Bd.returns] at h; cases h)
  refine ⟨_, _, pre0 _ ?_, hrun, hended, _, _, rfl, ?_, ⟨_, rfl⟩, hW, hsame.mono (by decide) (by decide)⟩
  · show Steps p.tables e below (s₁.setTop (mkF m 0 #[.val (.ref u0)] [])) _
    refine XS.aloadN X0.here hx rfl (hb hby d16_0) rfl rfl ?_
    show Steps p.tables e below (s₁.setTop (mkF m 1 #[.val (.ref u0)] [(.ref u0)])) _
    refine st1 _ ?_
    show Steps p.tables e below (T1.setTop (mkF m 4 #[.val (.ref u0)] [(.int w1)])) _
    exact retI X1 hx Bd.returns (hb hby d16_4) hr
  · show Q16 Z u0 w1 h0 n0 _ T1.heap _
    rw [e1]
    exact ⟨rfl, N0, rfl⟩
theorem d17_0 : decode prog_74_method_9_code 0 = .ok (.aload_n 0, 1) := by decide +kernel
theorem d17_1 : decode prog_74_method_9_code 1 = .ok (.getfield 19, 3) := by decide +kernel
theorem d17_4 : decode prog_74_method_9_code 4 = .ok (.ireturn, 1) := by decide +kernel
theorem ef_17 (m : MethodId) (u0 : Addr) : entryFrame m #[(.ref u0)] 1 = mkF m 0 #[.val (.ref u0)] [] := by first | (simp [entryFrame, mkF, argsToLocals, Value.category]; done) | rfl
def Q17 (Z : State) (u0 : Addr) (w1 : Int32) (h0 : Heap) (n0 : Nat) (v : Option Value) (h : Heap) (L : List Loc) : Prop := v = some (.int w1) ∧ Fr n0 L ∧ h = h0
set_option maxRecDepth 65536 in
set_option maxHeartbeats 40000000 in
theorem rm17 (l : Launch) (Z : State) (a0 : Array Value) (hw : ∀ d ∈ tables_1, d.before a0 Z = true) (ws : List Jvm.Cond) (u0 : Addr) (w1 : Int32) (h0 : Heap) (n0 : Nat) (Z0 : n0 ≤ h0.size) (F_u0 : Fld Z h0 u0 "com/example/decorum/decorum/graphics/Paint" "color" "I" (.int w1)) :
    MetFree l (⟨"com/example/decorum/decorum/graphics/Paint", "getColor", "()I"⟩ : MethodName) (head1 (Jvm.Cond.code (⟨"com/example/decorum/decorum/graphics/Paint", "getColor", "()I"⟩ : MethodName) prog_74_method_9_code 1 (some .int) :: ws) ({ frames := 0, cells := 0, slots := 0, locals := 0 } : Room)) (fun a U => a = #[(.ref u0)] ∧ Z.Warmed39 U.vm ∧ U.heap = h0) (fun _ _ _ _ _ => True) (fun _ U o U' => ∃ v L, o = .returned v ∧ Q17 Z u0 w1 h0 n0 v U'.heap L ∧ FrameEnd U o U' L ({ frames := 0, cells := 0, slots := 0, locals := 0 } : Room).cells ({ frames := 0, cells := 0, slots := 0, locals := 0 } : Room).slots) := by
  refine MetFree.of_bodySF (plainFor_of_name pn_com_example_decorum_decorum_graphics_Paint) hisR ?_
  intro p e s m args below meth c s₁ Bd hml0 hP hK
  obtain ⟨rfl, hZ, hh⟩ := hP
  have hx := Bd.exec
  have hby := Bd.bytes
  have hml : c.maxLocals = 1 := hml0
  have hown : s.vm.findClass "com/example/decorum/decorum/graphics/Paint" = some m.cls := findClass_of_methodNamed Bd.named
  have hnm := (name_of_methodNamed Bd.named Bd.method).1
  have X0 : Stand p l e ({ frames := 0, cells := 0, slots := 0, locals := 0 } : Room) s m #[(.ref u0)] below meth c s₁ [] 0 0 := Stand.of_body Bd
  have e0 : s₁.heap = h0 := by rw [← hh, Bd.state]; rfl
  have N0 := Fr.nil n0
  have pre0 : ∀ t, Steps p.tables e below (s₁.setTop (mkF m 0 #[.val (.ref u0)] [])) t → Steps p.tables e below (s₁.setTop (entryFrame m #[(.ref u0)] 1)) t := fun t k => castTop (ef_17 m u0) k
  obtain ⟨T1, X1, e1, st1⟩ := getF X0 hx hZ hown (host := "") (Or.inl (hw _ (List.mem_of_getElem? (i := 38) rfl))) Via.refl e0 F_u0 (g := (mkF m 1 #[.val (.ref u0)] [(.ref u0)])) rfl rfl (hb hby d17_1)
  obtain ⟨fs, hr, hrun, hended, hW, hsame⟩ := X1.leave (v := some (.int w1)) (fun h => by rw [Bd.returns] at h; cases h)
  refine ⟨_, _, pre0 _ ?_, hrun, hended, _, _, rfl, ?_, ⟨_, rfl⟩, hW, hsame.mono (by decide) (by decide)⟩
  · show Steps p.tables e below (s₁.setTop (mkF m 0 #[.val (.ref u0)] [])) _
    refine XS.aloadN X0.here hx rfl (hb hby d17_0) rfl rfl ?_
    show Steps p.tables e below (s₁.setTop (mkF m 1 #[.val (.ref u0)] [(.ref u0)])) _
    refine st1 _ ?_
    show Steps p.tables e below (T1.setTop (mkF m 4 #[.val (.ref u0)] [(.int w1)])) _
    exact retI X1 hx Bd.returns (hb hby d17_4) hr
  · show Q17 Z u0 w1 h0 n0 _ T1.heap _
    rw [e1]
    exact ⟨rfl, N0, rfl⟩
theorem d18_0 : decode prog_74_method_14_code 0 = .ok (.aload_n 0, 1) := by decide +kernel
theorem d18_1 : decode prog_74_method_14_code 1 = .ok (.getfield 28, 3) := by decide +kernel
theorem d18_4 : decode prog_74_method_14_code 4 = .ok (.areturn, 1) := by decide +kernel
theorem ef_18 (m : MethodId) (u0 : Addr) : entryFrame m #[(.ref u0)] 1 = mkF m 0 #[.val (.ref u0)] [] := by first | (simp [entryFrame, mkF, argsToLocals, Value.category]; done) | rfl
def Q18 (Z : State) (u0 : Addr) (w1 : Addr) (h0 : Heap) (n0 : Nat) (v : Option Value) (h : Heap) (L : List Loc) : Prop := v = some (.ref w1) ∧ Fr n0 L ∧ h = h0
set_option maxRecDepth 65536 in
set_option maxHeartbeats 40000000 in
theorem rm18 (l : Launch) (Z : State) (a0 : Array Value) (hw : ∀ d ∈ tables_1, d.before a0 Z = true) (ws : List Jvm.Cond) (u0 : Addr) (w1 : Addr) (h0 : Heap) (n0 : Nat) (Z0 : n0 ≤ h0.size) (F_u0 : Fld Z h0 u0 "com/example/decorum/decorum/graphics/Paint" "style" "Lcom/example/decorum/decorum/graphics/Paint$Style;" (.ref w1)) :
    MetFree l (⟨"com/example/decorum/decorum/graphics/Paint", "getStyle", "()Lcom/example/decorum/decorum/graphics/Paint$Style;"⟩ : MethodName) (head1 (Jvm.Cond.code (⟨"com/example/decorum/decorum/graphics/Paint", "getStyle", "()Lcom/example/decorum/decorum/graphics/Paint$Style;"⟩ : MethodName) prog_74_method_14_code 1 (some (.object "com/example/decorum/decorum/graphics/Paint$Style")) :: ws) ({ frames := 0, cells := 0, slots := 0, locals := 0 } : Room)) (fun a U => a = #[(.ref u0)] ∧ Z.Warmed39 U.vm ∧ U.heap = h0) (fun _ _ _ _ _ => True) (fun _ U o U' => ∃ v L, o = .returned v ∧ Q18 Z u0 w1 h0 n0 v U'.heap L ∧ FrameEnd U o U' L ({ frames := 0, cells := 0, slots := 0, locals := 0 } : Room).cells ({ frames := 0, cells := 0, slots := 0, locals := 0 } : Room).slots) := by
  refine MetFree.of_bodySF (plainFor_of_name pn_com_example_decorum_decorum_graphics_Paint) hisR ?_
  intro p e s m args below meth c s₁ Bd hml0 hP hK
  obtain ⟨rfl, hZ, hh⟩ := hP
  have hx := Bd.exec
  have hby := Bd.bytes
  have hml : c.maxLocals = 1 := hml0
  have hown : s.vm.findClass "com/example/decorum/decorum/graphics/Paint" = some m.cls := findClass_of_methodNamed Bd.named
  have hnm := (name_of_methodNamed Bd.named Bd.method).1
  have X0 : Stand p l e ({ frames := 0, cells := 0, slots := 0, locals := 0 } : Room) s m #[(.ref u0)] below meth c s₁ [] 0 0 := Stand.of_body Bd
  have e0 : s₁.heap = h0 := by rw [← hh, Bd.state]; rfl
  have N0 := Fr.nil n0
  have pre0 : ∀ t, Steps p.tables e below (s₁.setTop (mkF m 0 #[.val (.ref u0)] [])) t → Steps p.tables e below (s₁.setTop (entryFrame m #[(.ref u0)] 1)) t := fun t k => castTop (ef_18 m u0) k
  obtain ⟨T1, X1, e1, st1⟩ := getF X0 hx hZ hown (host := "") (Or.inl (hw _ (List.mem_of_getElem? (i := 42) rfl))) Via.refl e0 F_u0 (g := (mkF m 1 #[.val (.ref u0)] [(.ref u0)])) rfl rfl (hb hby d18_1)
  obtain ⟨fs, hr, hrun, hended, hW, hsame⟩ := X1.leave (v := some (.ref w1)) (fun h => by rw [Bd.returns] at h; cases h)
  refine ⟨_, _, pre0 _ ?_, hrun, hended, _, _, rfl, ?_, ⟨_, rfl⟩, hW, hsame.mono (by decide) (by decide)⟩
  · show Steps p.tables e below (s₁.setTop (mkF m 0 #[.val (.ref u0)] [])) _
    refine XS.aloadN X0.here hx rfl (hb hby d18_0) rfl rfl ?_
    show Steps p.tables e below (s₁.setTop (mkF m 1 #[.val (.ref u0)] [(.ref u0)])) _
    refine st1 _ ?_
    show Steps p.tables e below (T1.setTop (mkF m 4 #[.val (.ref u0)] [(.ref w1)])) _
    jvm_step X1.here [X1.here.top, hx, (hb hby d18_4), X1.method', Bd.returns, Value.isRef, FieldType.isReference]
    first | (intro acts; rw [hr _ acts rfl rfl rfl]) | rw [hr _ _ rfl rfl rfl]
    exact Steps.refl _
  · show Q18 Z u0 w1 h0 n0 _ T1.heap _
    rw [e1]
    exact ⟨rfl, N0, rfl⟩
theorem d19_0 : decode prog_74_method_16_code 0 = .ok (.aload_n 0, 1) := by decide +kernel
theorem d19_1 : decode prog_74_method_16_code 1 = .ok (.getfield 76, 3) := by decide +kernel
theorem d19_4 : decode prog_74_method_16_code 4 = .ok (.freturn, 1) := by decide +kernel
theorem ef_19 (m : MethodId) (u0 : Addr) : entryFrame m #[(.ref u0)] 1 = mkF m 0 #[.val (.ref u0)] [] := by first | (simp [entryFrame, mkF, argsToLocals, Value.category]; done) | rfl
def Q19 (Z : State) (u0 : Addr) (w1 : UInt32) (h0 : Heap) (n0 : Nat) (v : Option Value) (h : Heap) (L : List Loc) : Prop := v = some (.float w1) ∧ Fr n0 L ∧ h = h0
set_option maxRecDepth 65536 in
set_option maxHeartbeats 40000000 in
theorem rm19 (l : Launch) (Z : State) (a0 : Array Value) (hw : ∀ d ∈ tables_1, d.before a0 Z = true) (ws : List Jvm.Cond) (u0 : Addr) (w1 : UInt32) (h0 : Heap) (n0 : Nat) (Z0 : n0 ≤ h0.size) (F_u0 : Fld Z h0 u0 "com/example/decorum/decorum/graphics/Paint" "strokeWidth" "F" (.float w1)) :
    MetFree l (⟨"com/example/decorum/decorum/graphics/Paint", "getStrokeWidth", "()F"⟩ : MethodName) (head1 (Jvm.Cond.code (⟨"com/example/decorum/decorum/graphics/Paint", "getStrokeWidth", "()F"⟩ : MethodName) prog_74_method_16_code 1 (some .float) :: ws) ({ frames := 0, cells := 0, slots := 0, locals := 0 } : Room)) (fun a U => a = #[(.ref u0)] ∧ Z.Warmed39 U.vm ∧ U.heap = h0) (fun _ _ _ _ _ => True) (fun _ U o U' => ∃ v L, o = .returned v ∧ Q19 Z u0 w1 h0 n0 v U'.heap L ∧ FrameEnd U o U' L ({ frames := 0, cells := 0, slots := 0, locals := 0 } : Room).cells ({ frames := 0, cells := 0, slots := 0, locals := 0 } : Room).slots) := by
  refine MetFree.of_bodySF (plainFor_of_name pn_com_example_decorum_decorum_graphics_Paint) hisR ?_
  intro p e s m args below meth c s₁ Bd hml0 hP hK
  obtain ⟨rfl, hZ, hh⟩ := hP
  have hx := Bd.exec
  have hby := Bd.bytes
  have hml : c.maxLocals = 1 := hml0
  have hown : s.vm.findClass "com/example/decorum/decorum/graphics/Paint" = some m.cls := findClass_of_methodNamed Bd.named
  have hnm := (name_of_methodNamed Bd.named Bd.method).1
  have X0 : Stand p l e ({ frames := 0, cells := 0, slots := 0, locals := 0 } : Room) s m #[(.ref u0)] below meth c s₁ [] 0 0 := Stand.of_body Bd
  have e0 : s₁.heap = h0 := by rw [← hh, Bd.state]; rfl
  have N0 := Fr.nil n0
  have pre0 : ∀ t, Steps p.tables e below (s₁.setTop (mkF m 0 #[.val (.ref u0)] [])) t → Steps p.tables e below (s₁.setTop (entryFrame m #[(.ref u0)] 1)) t := fun t k => castTop (ef_19 m u0) k
  obtain ⟨T1, X1, e1, st1⟩ := getF X0 hx hZ hown (host := "") (Or.inl (hw _ (List.mem_of_getElem? (i := 91) rfl))) Via.refl e0 F_u0 (g := (mkF m 1 #[.val (.ref u0)] [(.ref u0)])) rfl rfl (hb hby d19_1)
  obtain ⟨fs, hr, hrun, hended, hW, hsame⟩ := X1.leave (v := some (.float w1)) (fun h => by rw [Bd.returns] at h; cases h)
  refine ⟨_, _, pre0 _ ?_, hrun, hended, _, _, rfl, ?_, ⟨_, rfl⟩, hW, hsame.mono (by decide) (by decide)⟩
  · show Steps p.tables e below (s₁.setTop (mkF m 0 #[.val (.ref u0)] [])) _
    refine XS.aloadN X0.here hx rfl (hb hby d19_0) rfl rfl ?_
    show Steps p.tables e below (s₁.setTop (mkF m 1 #[.val (.ref u0)] [(.ref u0)])) _
    refine st1 _ ?_
    show Steps p.tables e below (T1.setTop (mkF m 4 #[.val (.ref u0)] [(.float w1)])) _
    exact retF X1 hx Bd.returns (hb hby d19_4) hr
  · show Q19 Z u0 w1 h0 n0 _ T1.heap _
    rw [e1]
    exact ⟨rfl, N0, rfl⟩
theorem d20_0 : decode prog_74_method_18_code 0 = .ok (.aload_n 0, 1) := by decide +kernel
theorem d20_1 : decode prog_74_method_18_code 1 = .ok (.getfield 37, 3) := by decide +kernel
theorem d20_4 : decode prog_74_method_18_code 4 = .ok (.areturn, 1) := by decide +kernel
theorem ef_20 (m : MethodId) (u0 : Addr) : entryFrame m #[(.ref u0)] 1 = mkF m 0 #[.val (.ref u0)] [] := by first | (simp [entryFrame, mkF, argsToLocals, Value.category]; done) | rfl
def Q20 (Z : State) (u0 : Addr) (w1 : Addr) (h0 : Heap) (n0 : Nat) (v : Option Value) (h : Heap) (L : List Loc) : Prop := v = some (.ref w1) ∧ Fr n0 L ∧ h = h0
set_option maxRecDepth 65536 in
set_option maxHeartbeats 40000000 in
theorem rm20 (l : Launch) (Z : State) (a0 : Array Value) (hw : ∀ d ∈ tables_1, d.before a0 Z = true) (ws : List Jvm.Cond) (u0 : Addr) (w1 : Addr) (h0 : Heap) (n0 : Nat) (Z0 : n0 ≤ h0.size) (F_u0 : Fld Z h0 u0 "com/example/decorum/decorum/graphics/Paint" "strokeCap" "Lcom/example/decorum/decorum/graphics/Paint$Cap;" (.ref w1)) :
    MetFree l (⟨"com/example/decorum/decorum/graphics/Paint", "getStrokeCap", "()Lcom/example/decorum/decorum/graphics/Paint$Cap;"⟩ : MethodName) (head1 (Jvm.Cond.code (⟨"com/example/decorum/decorum/graphics/Paint", "getStrokeCap", "()Lcom/example/decorum/decorum/graphics/Paint$Cap;"⟩ : MethodName) prog_74_method_18_code 1 (some (.object "com/example/decorum/decorum/graphics/Paint$Cap")) :: ws) ({ frames := 0, cells := 0, slots := 0, locals := 0 } : Room)) (fun a U => a = #[(.ref u0)] ∧ Z.Warmed39 U.vm ∧ U.heap = h0) (fun _ _ _ _ _ => True) (fun _ U o U' => ∃ v L, o = .returned v ∧ Q20 Z u0 w1 h0 n0 v U'.heap L ∧ FrameEnd U o U' L ({ frames := 0, cells := 0, slots := 0, locals := 0 } : Room).cells ({ frames := 0, cells := 0, slots := 0, locals := 0 } : Room).slots) := by
  refine MetFree.of_bodySF (plainFor_of_name pn_com_example_decorum_decorum_graphics_Paint) hisR ?_
  intro p e s m args below meth c s₁ Bd hml0 hP hK
  obtain ⟨rfl, hZ, hh⟩ := hP
  have hx := Bd.exec
  have hby := Bd.bytes
  have hml : c.maxLocals = 1 := hml0
  have hown : s.vm.findClass "com/example/decorum/decorum/graphics/Paint" = some m.cls := findClass_of_methodNamed Bd.named
  have hnm := (name_of_methodNamed Bd.named Bd.method).1
  have X0 : Stand p l e ({ frames := 0, cells := 0, slots := 0, locals := 0 } : Room) s m #[(.ref u0)] below meth c s₁ [] 0 0 := Stand.of_body Bd
  have e0 : s₁.heap = h0 := by rw [← hh, Bd.state]; rfl
  have N0 := Fr.nil n0
  have pre0 : ∀ t, Steps p.tables e below (s₁.setTop (mkF m 0 #[.val (.ref u0)] [])) t → Steps p.tables e below (s₁.setTop (entryFrame m #[(.ref u0)] 1)) t := fun t k => castTop (ef_20 m u0) k
  obtain ⟨T1, X1, e1, st1⟩ := getF X0 hx hZ hown (host := "") (Or.inl (hw _ (List.mem_of_getElem? (i := 45) rfl))) Via.refl e0 F_u0 (g := (mkF m 1 #[.val (.ref u0)] [(.ref u0)])) rfl rfl (hb hby d20_1)
  obtain ⟨fs, hr, hrun, hended, hW, hsame⟩ := X1.leave (v := some (.ref w1)) (fun h => by rw [Bd.returns] at h; cases h)
  refine ⟨_, _, pre0 _ ?_, hrun, hended, _, _, rfl, ?_, ⟨_, rfl⟩, hW, hsame.mono (by decide) (by decide)⟩
  · show Steps p.tables e below (s₁.setTop (mkF m 0 #[.val (.ref u0)] [])) _
    refine XS.aloadN X0.here hx rfl (hb hby d20_0) rfl rfl ?_
    show Steps p.tables e below (s₁.setTop (mkF m 1 #[.val (.ref u0)] [(.ref u0)])) _
    refine st1 _ ?_
    show Steps p.tables e below (T1.setTop (mkF m 4 #[.val (.ref u0)] [(.ref w1)])) _
    jvm_step X1.here [X1.here.top, hx, (hb hby d20_4), X1.method', Bd.returns, Value.isRef, FieldType.isReference]
    first | (intro acts; rw [hr _ acts rfl rfl rfl]) | rw [hr _ _ rfl rfl rfl]
    exact Steps.refl _
  · show Q20 Z u0 w1 h0 n0 _ T1.heap _
    rw [e1]
    exact ⟨rfl, N0, rfl⟩
theorem d21_0 : decode prog_74_method_20_code 0 = .ok (.aload_n 0, 1) := by decide +kernel
theorem d21_1 : decode prog_74_method_20_code 1 = .ok (.getfield 46, 3) := by decide +kernel
theorem d21_4 : decode prog_74_method_20_code 4 = .ok (.areturn, 1) := by decide +kernel
theorem ef_21 (m : MethodId) (u0 : Addr) : entryFrame m #[(.ref u0)] 1 = mkF m 0 #[.val (.ref u0)] [] := by first | (simp [entryFrame, mkF, argsToLocals, Value.category]; done) | rfl
def Q21 (Z : State) (u0 : Addr) (w1 : Addr) (h0 : Heap) (n0 : Nat) (v : Option Value) (h : Heap) (L : List Loc) : Prop := v = some (.ref w1) ∧ Fr n0 L ∧ h = h0
set_option maxRecDepth 65536 in
set_option maxHeartbeats 40000000 in
theorem rm21 (l : Launch) (Z : State) (a0 : Array Value) (hw : ∀ d ∈ tables_1, d.before a0 Z = true) (ws : List Jvm.Cond) (u0 : Addr) (w1 : Addr) (h0 : Heap) (n0 : Nat) (Z0 : n0 ≤ h0.size) (F_u0 : Fld Z h0 u0 "com/example/decorum/decorum/graphics/Paint" "strokeJoin" "Lcom/example/decorum/decorum/graphics/Paint$Join;" (.ref w1)) :
    MetFree l (⟨"com/example/decorum/decorum/graphics/Paint", "getStrokeJoin", "()Lcom/example/decorum/decorum/graphics/Paint$Join;"⟩ : MethodName) (head1 (Jvm.Cond.code (⟨"com/example/decorum/decorum/graphics/Paint", "getStrokeJoin", "()Lcom/example/decorum/decorum/graphics/Paint$Join;"⟩ : MethodName) prog_74_method_20_code 1 (some (.object "com/example/decorum/decorum/graphics/Paint$Join")) :: ws) ({ frames := 0, cells := 0, slots := 0, locals := 0 } : Room)) (fun a U => a = #[(.ref u0)] ∧ Z.Warmed39 U.vm ∧ U.heap = h0) (fun _ _ _ _ _ => True) (fun _ U o U' => ∃ v L, o = .returned v ∧ Q21 Z u0 w1 h0 n0 v U'.heap L ∧ FrameEnd U o U' L ({ frames := 0, cells := 0, slots := 0, locals := 0 } : Room).cells ({ frames := 0, cells := 0, slots := 0, locals := 0 } : Room).slots) := by
  refine MetFree.of_bodySF (plainFor_of_name pn_com_example_decorum_decorum_graphics_Paint) hisR ?_
  intro p e s m args below meth c s₁ Bd hml0 hP hK
  obtain ⟨rfl, hZ, hh⟩ := hP
  have hx := Bd.exec
  have hby := Bd.bytes
  have hml : c.maxLocals = 1 := hml0
  have hown : s.vm.findClass "com/example/decorum/decorum/graphics/Paint" = some m.cls := findClass_of_methodNamed Bd.named
  have hnm := (name_of_methodNamed Bd.named Bd.method).1
  have X0 : Stand p l e ({ frames := 0, cells := 0, slots := 0, locals := 0 } : Room) s m #[(.ref u0)] below meth c s₁ [] 0 0 := Stand.of_body Bd
  have e0 : s₁.heap = h0 := by rw [← hh, Bd.state]; rfl
  have N0 := Fr.nil n0
  have pre0 : ∀ t, Steps p.tables e below (s₁.setTop (mkF m 0 #[.val (.ref u0)] [])) t → Steps p.tables e below (s₁.setTop (entryFrame m #[(.ref u0)] 1)) t := fun t k => castTop (ef_21 m u0) k
  obtain ⟨T1, X1, e1, st1⟩ := getF X0 hx hZ hown (host := "") (Or.inl (hw _ (List.mem_of_getElem? (i := 48) rfl))) Via.refl e0 F_u0 (g := (mkF m 1 #[.val (.ref u0)] [(.ref u0)])) rfl rfl (hb hby d21_1)
  obtain ⟨fs, hr, hrun, hended, hW, hsame⟩ := X1.leave (v := some (.ref w1)) (fun h => by rw [Bd.returns] at h; cases h)
  refine ⟨_, _, pre0 _ ?_, hrun, hended, _, _, rfl, ?_, ⟨_, rfl⟩, hW, hsame.mono (by decide) (by decide)⟩
  · show Steps p.tables e below (s₁.setTop (mkF m 0 #[.val (.ref u0)] [])) _
    refine XS.aloadN X0.here hx rfl (hb hby d21_0) rfl rfl ?_
    show Steps p.tables e below (s₁.setTop (mkF m 1 #[.val (.ref u0)] [(.ref u0)])) _
    refine st1 _ ?_
    show Steps p.tables e below (T1.setTop (mkF m 4 #[.val (.ref u0)] [(.ref w1)])) _
    jvm_step X1.here [X1.here.top, hx, (hb hby d21_4), X1.method', Bd.returns, Value.isRef, FieldType.isReference]
    first | (intro acts; rw [hr _ acts rfl rfl rfl]) | rw [hr _ _ rfl rfl rfl]
    exact Steps.refl _
  · show Q21 Z u0 w1 h0 n0 _ T1.heap _
    rw [e1]
    exact ⟨rfl, N0, rfl⟩
theorem d22_0 : decode prog_74_method_22_code 0 = .ok (.aload_n 0, 1) := by decide +kernel
theorem d22_1 : decode prog_74_method_22_code 1 = .ok (.getfield 55, 3) := by decide +kernel
theorem d22_4 : decode prog_74_method_22_code 4 = .ok (.areturn, 1) := by decide +kernel
theorem ef_22 (m : MethodId) (u0 : Addr) : entryFrame m #[(.ref u0)] 1 = mkF m 0 #[.val (.ref u0)] [] := by first | (simp [entryFrame, mkF, argsToLocals, Value.category]; done) | rfl
def Q22 (Z : State) (u0 : Addr) (w1 : Addr) (h0 : Heap) (n0 : Nat) (v : Option Value) (h : Heap) (L : List Loc) : Prop := v = some (.ref w1) ∧ Fr n0 L ∧ h = h0
set_option maxRecDepth 65536 in
set_option maxHeartbeats 40000000 in
theorem rm22 (l : Launch) (Z : State) (a0 : Array Value) (hw : ∀ d ∈ tables_1, d.before a0 Z = true) (ws : List Jvm.Cond) (u0 : Addr) (w1 : Addr) (h0 : Heap) (n0 : Nat) (Z0 : n0 ≤ h0.size) (F_u0 : Fld Z h0 u0 "com/example/decorum/decorum/graphics/Paint" "typeface" "Lcom/example/decorum/decorum/graphics/Typeface;" (.ref w1)) :
    MetFree l (⟨"com/example/decorum/decorum/graphics/Paint", "getTypeface", "()Lcom/example/decorum/decorum/graphics/Typeface;"⟩ : MethodName) (head1 (Jvm.Cond.code (⟨"com/example/decorum/decorum/graphics/Paint", "getTypeface", "()Lcom/example/decorum/decorum/graphics/Typeface;"⟩ : MethodName) prog_74_method_22_code 1 (some (.object "com/example/decorum/decorum/graphics/Typeface")) :: ws) ({ frames := 0, cells := 0, slots := 0, locals := 0 } : Room)) (fun a U => a = #[(.ref u0)] ∧ Z.Warmed39 U.vm ∧ U.heap = h0) (fun _ _ _ _ _ => True) (fun _ U o U' => ∃ v L, o = .returned v ∧ Q22 Z u0 w1 h0 n0 v U'.heap L ∧ FrameEnd U o U' L ({ frames := 0, cells := 0, slots := 0, locals := 0 } : Room).cells ({ frames := 0, cells := 0, slots := 0, locals := 0 } : Room).slots) := by
  refine MetFree.of_bodySF (plainFor_of_name pn_com_example_decorum_decorum_graphics_Paint) hisR ?_
  intro p e s m args below meth c s₁ Bd hml0 hP hK
  obtain ⟨rfl, hZ, hh⟩ := hP
  have hx := Bd.exec
  have hby := Bd.bytes
  have hml : c.maxLocals = 1 := hml0
  have hown : s.vm.findClass "com/example/decorum/decorum/graphics/Paint" = some m.cls := findClass_of_methodNamed Bd.named
  have hnm := (name_of_methodNamed Bd.named Bd.method).1
  have X0 : Stand p l e ({ frames := 0, cells := 0, slots := 0, locals := 0 } : Room) s m #[(.ref u0)] below meth c s₁ [] 0 0 := Stand.of_body Bd
  have e0 : s₁.heap = h0 := by rw [← hh, Bd.state]; rfl
  have N0 := Fr.nil n0
  have pre0 : ∀ t, Steps p.tables e below (s₁.setTop (mkF m 0 #[.val (.ref u0)] [])) t → Steps p.tables e below (s₁.setTop (entryFrame m #[(.ref u0)] 1)) t := fun t k => castTop (ef_22 m u0) k
  obtain ⟨T1, X1, e1, st1⟩ := getF X0 hx hZ hown (host := "") (Or.inl (hw _ (List.mem_of_getElem? (i := 53) rfl))) Via.refl e0 F_u0 (g := (mkF m 1 #[.val (.ref u0)] [(.ref u0)])) rfl rfl (hb hby d22_1)
  obtain ⟨fs, hr, hrun, hended, hW, hsame⟩ := X1.leave (v := some (.ref w1)) (fun h => by rw [Bd.returns] at h; cases h)
  refine ⟨_, _, pre0 _ ?_, hrun, hended, _, _, rfl, ?_, ⟨_, rfl⟩, hW, hsame.mono (by decide) (by decide)⟩
  · show Steps p.tables e below (s₁.setTop (mkF m 0 #[.val (.ref u0)] [])) _
    refine XS.aloadN X0.here hx rfl (hb hby d22_0) rfl rfl ?_
    show Steps p.tables e below (s₁.setTop (mkF m 1 #[.val (.ref u0)] [(.ref u0)])) _
    refine st1 _ ?_
    show Steps p.tables e below (T1.setTop (mkF m 4 #[.val (.ref u0)] [(.ref w1)])) _
    jvm_step X1.here [X1.here.top, hx, (hb hby d22_4), X1.method', Bd.returns, Value.isRef, FieldType.isReference]
    first | (intro acts; rw [hr _ acts rfl rfl rfl]) | rw [hr _ _ rfl rfl rfl]
    exact Steps.refl _
  · show Q22 Z u0 w1 h0 n0 _ T1.heap _
    rw [e1]
    exact ⟨rfl, N0, rfl⟩
theorem d23_0 : decode prog_74_method_24_code 0 = .ok (.aload_n 0, 1) := by decide +kernel
theorem d23_1 : decode prog_74_method_24_code 1 = .ok (.getfield 59, 3) := by decide +kernel
theorem d23_4 : decode prog_74_method_24_code 4 = .ok (.freturn, 1) := by decide +kernel
theorem ef_23 (m : MethodId) (u0 : Addr) : entryFrame m #[(.ref u0)] 1 = mkF m 0 #[.val (.ref u0)] [] := by first | (simp [entryFrame, mkF, argsToLocals, Value.category]; done) | rfl
def Q23 (Z : State) (u0 : Addr) (w1 : UInt32) (h0 : Heap) (n0 : Nat) (v : Option Value) (h : Heap) (L : List Loc) : Prop := v = some (.float w1) ∧ Fr n0 L ∧ h = h0
set_option maxRecDepth 65536 in
set_option maxHeartbeats 40000000 in
theorem rm23 (l : Launch) (Z : State) (a0 : Array Value) (hw : ∀ d ∈ tables_1, d.before a0 Z = true) (ws : List Jvm.Cond) (u0 : Addr) (w1 : UInt32) (h0 : Heap) (n0 : Nat) (Z0 : n0 ≤ h0.size) (F_u0 : Fld Z h0 u0 "com/example/decorum/decorum/graphics/Paint" "textSize" "F" (.float w1)) :
    MetFree l (⟨"com/example/decorum/decorum/graphics/Paint", "getTextSize", "()F"⟩ : MethodName) (head1 (Jvm.Cond.code (⟨"com/example/decorum/decorum/graphics/Paint", "getTextSize", "()F"⟩ : MethodName) prog_74_method_24_code 1 (some .float) :: ws) ({ frames := 0, cells := 0, slots := 0, locals := 0 } : Room)) (fun a U => a = #[(.ref u0)] ∧ Z.Warmed39 U.vm ∧ U.heap = h0) (fun _ _ _ _ _ => True) (fun _ U o U' => ∃ v L, o = .returned v ∧ Q23 Z u0 w1 h0 n0 v U'.heap L ∧ FrameEnd U o U' L ({ frames := 0, cells := 0, slots := 0, locals := 0 } : Room).cells ({ frames := 0, cells := 0, slots := 0, locals := 0 } : Room).slots) := by
  refine MetFree.of_bodySF (plainFor_of_name pn_com_example_decorum_decorum_graphics_Paint) hisR ?_
  intro p e s m args below meth c s₁ Bd hml0 hP hK
  obtain ⟨rfl, hZ, hh⟩ := hP
  have hx := Bd.exec
  have hby := Bd.bytes
  have hml : c.maxLocals = 1 := hml0
  have hown : s.vm.findClass "com/example/decorum/decorum/graphics/Paint" = some m.cls := findClass_of_methodNamed Bd.named
  have hnm := (name_of_methodNamed Bd.named Bd.method).1
  have X0 : Stand p l e ({ frames := 0, cells := 0, slots := 0, locals := 0 } : Room) s m #[(.ref u0)] below meth c s₁ [] 0 0 := Stand.of_body Bd
  have e0 : s₁.heap = h0 := by rw [← hh, Bd.state]; rfl
  have N0 := Fr.nil n0
  have pre0 : ∀ t, Steps p.tables e below (s₁.setTop (mkF m 0 #[.val (.ref u0)] [])) t → Steps p.tables e below (s₁.setTop (entryFrame m #[(.ref u0)] 1)) t := fun t k => castTop (ef_23 m u0) k
  obtain ⟨T1, X1, e1, st1⟩ := getF X0 hx hZ hown (host := "") (Or.inl (hw _ (List.mem_of_getElem? (i := 56) rfl))) Via.refl e0 F_u0 (g := (mkF m 1 #[.val (.ref u0)] [(.ref u0)])) rfl rfl (hb hby d23_1)
  obtain ⟨fs, hr, hrun, hended, hW, hsame⟩ := X1.leave (v := some (.float w1)) (fun h => by rw [Bd.returns] at h; cases h)
  refine ⟨_, _, pre0 _ ?_, hrun, hended, _, _, rfl, ?_, ⟨_, rfl⟩, hW, hsame.mono (by decide) (by decide)⟩
  · show Steps p.tables e below (s₁.setTop (mkF m 0 #[.val (.ref u0)] [])) _
    refine XS.aloadN X0.here hx rfl (hb hby d23_0) rfl rfl ?_
    show Steps p.tables e below (s₁.setTop (mkF m 1 #[.val (.ref u0)] [(.ref u0)])) _
    refine st1 _ ?_
    show Steps p.tables e below (T1.setTop (mkF m 4 #[.val (.ref u0)] [(.float w1)])) _
    exact retF X1 hx Bd.returns (hb hby d23_4) hr
  · show Q23 Z u0 w1 h0 n0 _ T1.heap _
    rw [e1]
    exact ⟨rfl, N0, rfl⟩
theorem d24_0 : decode prog_74_method_26_code 0 = .ok (.aload_n 0, 1) := by decide +kernel
theorem d24_1 : decode prog_74_method_26_code 1 = .ok (.getfield 69, 3) := by decide +kernel
theorem d24_4 : decode prog_74_method_26_code 4 = .ok (.areturn, 1) := by decide +kernel
theorem ef_24 (m : MethodId) (u0 : Addr) : entryFrame m #[(.ref u0)] 1 = mkF m 0 #[.val (.ref u0)] [] := by first | (simp [entryFrame, mkF, argsToLocals, Value.category]; done) | rfl
def Q24 (Z : State) (u0 : Addr) (w1 : Addr) (h0 : Heap) (n0 : Nat) (v : Option Value) (h : Heap) (L : List Loc) : Prop := v = some (.ref w1) ∧ Fr n0 L ∧ h = h0
set_option maxRecDepth 65536 in
set_option maxHeartbeats 40000000 in
theorem rm24 (l : Launch) (Z : State) (a0 : Array Value) (hw : ∀ d ∈ tables_1, d.before a0 Z = true) (ws : List Jvm.Cond) (u0 : Addr) (w1 : Addr) (h0 : Heap) (n0 : Nat) (Z0 : n0 ≤ h0.size) (F_u0 : Fld Z h0 u0 "com/example/decorum/decorum/graphics/Paint" "textAlign" "Lcom/example/decorum/decorum/graphics/Paint$Align;" (.ref w1)) :
    MetFree l (⟨"com/example/decorum/decorum/graphics/Paint", "getTextAlign", "()Lcom/example/decorum/decorum/graphics/Paint$Align;"⟩ : MethodName) (head1 (Jvm.Cond.code (⟨"com/example/decorum/decorum/graphics/Paint", "getTextAlign", "()Lcom/example/decorum/decorum/graphics/Paint$Align;"⟩ : MethodName) prog_74_method_26_code 1 (some (.object "com/example/decorum/decorum/graphics/Paint$Align")) :: ws) ({ frames := 0, cells := 0, slots := 0, locals := 0 } : Room)) (fun a U => a = #[(.ref u0)] ∧ Z.Warmed39 U.vm ∧ U.heap = h0) (fun _ _ _ _ _ => True) (fun _ U o U' => ∃ v L, o = .returned v ∧ Q24 Z u0 w1 h0 n0 v U'.heap L ∧ FrameEnd U o U' L ({ frames := 0, cells := 0, slots := 0, locals := 0 } : Room).cells ({ frames := 0, cells := 0, slots := 0, locals := 0 } : Room).slots) := by
  refine MetFree.of_bodySF (plainFor_of_name pn_com_example_decorum_decorum_graphics_Paint) hisR ?_
  intro p e s m args below meth c s₁ Bd hml0 hP hK
  obtain ⟨rfl, hZ, hh⟩ := hP
  have hx := Bd.exec
  have hby := Bd.bytes
  have hml : c.maxLocals = 1 := hml0
  have hown : s.vm.findClass "com/example/decorum/decorum/graphics/Paint" = some m.cls := findClass_of_methodNamed Bd.named
  have hnm := (name_of_methodNamed Bd.named Bd.method).1
  have X0 : Stand p l e ({ frames := 0, cells := 0, slots := 0, locals := 0 } : Room) s m #[(.ref u0)] below meth c s₁ [] 0 0 := Stand.of_body Bd
  have e0 : s₁.heap = h0 := by rw [← hh, Bd.state]; rfl
  have N0 := Fr.nil n0
  have pre0 : ∀ t, Steps p.tables e below (s₁.setTop (mkF m 0 #[.val (.ref u0)] [])) t → Steps p.tables e below (s₁.setTop (entryFrame m #[(.ref u0)] 1)) t := fun t k => castTop (ef_24 m u0) k
  obtain ⟨T1, X1, e1, st1⟩ := getF X0 hx hZ hown (host := "") (Or.inl (hw _ (List.mem_of_getElem? (i := 59) rfl))) Via.refl e0 F_u0 (g := (mkF m 1 #[.val (.ref u0)] [(.ref u0)])) rfl rfl (hb hby d24_1)
  obtain ⟨fs, hr, hrun, hended, hW, hsame⟩ := X1.leave (v := some (.ref w1)) (fun h => by rw [Bd.returns] at h; cases h)
  refine ⟨_, _, pre0 _ ?_, hrun, hended, _, _, rfl, ?_, ⟨_, rfl⟩, hW, hsame.mono (by decide) (by decide)⟩
  · show Steps p.tables e below (s₁.setTop (mkF m 0 #[.val (.ref u0)] [])) _
    refine XS.aloadN X0.here hx rfl (hb hby d24_0) rfl rfl ?_
    show Steps p.tables e below (s₁.setTop (mkF m 1 #[.val (.ref u0)] [(.ref u0)])) _
    refine st1 _ ?_
    show Steps p.tables e below (T1.setTop (mkF m 4 #[.val (.ref u0)] [(.ref w1)])) _
    jvm_step X1.here [X1.here.top, hx, (hb hby d24_4), X1.method', Bd.returns, Value.isRef, FieldType.isReference]
    first | (intro acts; rw [hr _ acts rfl rfl rfl]) | rw [hr _ _ rfl rfl rfl]
    exact Steps.refl _
  · show Q24 Z u0 w1 h0 n0 _ T1.heap _
    rw [e1]
    exact ⟨rfl, N0, rfl⟩
theorem pd_12 : parseMethodDescriptor "(I)Lcom/example/decorum/decorum/graphics/Paint$Style;" = some ⟨[.int], some (.object "com/example/decorum/decorum/graphics/Paint$Style")⟩ := by decide +kernel
theorem pd_10 : parseMethodDescriptor "(I)Lcom/example/decorum/decorum/graphics/Paint$Cap;" = some ⟨[.int], some (.object "com/example/decorum/decorum/graphics/Paint$Cap")⟩ := by decide +kernel
theorem pd_11 : parseMethodDescriptor "(I)Lcom/example/decorum/decorum/graphics/Paint$Join;" = some ⟨[.int], some (.object "com/example/decorum/decorum/graphics/Paint$Join")⟩ := by decide +kernel
theorem pd_9 : parseMethodDescriptor "(I)Lcom/example/decorum/decorum/graphics/Paint$Align;" = some ⟨[.int], some (.object "com/example/decorum/decorum/graphics/Paint$Align")⟩ := by decide +kernel
theorem pd_13 : parseMethodDescriptor "(I)V" = some ⟨[.int], none⟩ := by decide +kernel
theorem pd_17 : parseMethodDescriptor "(Lcom/example/decorum/decorum/graphics/Paint$Style;)V" = some ⟨[(.object "com/example/decorum/decorum/graphics/Paint$Style")], none⟩ := by decide +kernel
theorem pd_8 : parseMethodDescriptor "(F)V" = some ⟨[.float], none⟩ := by decide +kernel
theorem pd_15 : parseMethodDescriptor "(Lcom/example/decorum/decorum/graphics/Paint$Cap;)V" = some ⟨[(.object "com/example/decorum/decorum/graphics/Paint$Cap")], none⟩ := by decide +kernel
theorem pd_16 : parseMethodDescriptor "(Lcom/example/decorum/decorum/graphics/Paint$Join;)V" = some ⟨[(.object "com/example/decorum/decorum/graphics/Paint$Join")], none⟩ := by decide +kernel
theorem pd_14 : parseMethodDescriptor "(Lcom/example/decorum/decorum/graphics/Paint$Align;)V" = some ⟨[(.object "com/example/decorum/decorum/graphics/Paint$Align")], none⟩ := by decide +kernel
theorem pd_18 : parseMethodDescriptor "(Lcom/example/decorum/decorum/graphics/Paint;)V" = some ⟨[(.object "com/example/decorum/decorum/graphics/Paint")], none⟩ := by decide +kernel
theorem pd_1 : parseMethodDescriptor "()I" = some ⟨[], some .int⟩ := by decide +kernel
theorem pd_5 : parseMethodDescriptor "()Lcom/example/decorum/decorum/graphics/Paint$Style;" = some ⟨[], some (.object "com/example/decorum/decorum/graphics/Paint$Style")⟩ := by decide +kernel
theorem pd_0 : parseMethodDescriptor "()F" = some ⟨[], some .float⟩ := by decide +kernel
theorem pd_3 : parseMethodDescriptor "()Lcom/example/decorum/decorum/graphics/Paint$Cap;" = some ⟨[], some (.object "com/example/decorum/decorum/graphics/Paint$Cap")⟩ := by decide +kernel
theorem pd_4 : parseMethodDescriptor "()Lcom/example/decorum/decorum/graphics/Paint$Join;" = some ⟨[], some (.object "com/example/decorum/decorum/graphics/Paint$Join")⟩ := by decide +kernel
theorem pd_6 : parseMethodDescriptor "()Lcom/example/decorum/decorum/graphics/Typeface;" = some ⟨[], some (.object "com/example/decorum/decorum/graphics/Typeface")⟩ := by decide +kernel
theorem pd_2 : parseMethodDescriptor "()Lcom/example/decorum/decorum/graphics/Paint$Align;" = some ⟨[], some (.object "com/example/decorum/decorum/graphics/Paint$Align")⟩ := by decide +kernel
theorem ef_0 (m : MethodId) (u0 : Int32) (u1 : Int32) (u2 : Int32) (u3 : Int32) (u4 : Int32) (u5 : Int32) : entryFrame m #[(.int u0), (.int u1), (.int u2), (.int u3), (.int u4), (.int u5)] maxLocals = mkF m 0 #[.val (.int u0), .val (.int u1), .val (.int u2), .val (.int u3), .val (.int u4), .val (.int u5), .unset, .unset, .unset, .unset, .unset, .unset, .unset, .unset] [] := by first | (simp [entryFrame, mkF, argsToLocals, Value.category, maxLocals]; done) | rfl
def Q0 (Z : State) (u0 : Int32) (u1 : Int32) (u2 : Int32) (u3 : Int32) (u4 : Int32) (u5 : Int32) (a_STROKE : Addr) (a_FILL : Addr) (a_FILL_AND_STROKE : Addr) (a_BUTT : Addr) (a_Cap_ROUND : Addr) (a_SQUARE : Addr) (a_MITER : Addr) (a_Join_ROUND : Addr) (a_BEVEL : Addr) (a_LEFT : Addr) (a_CENTER : Addr) (a_RIGHT : Addr) (a_DEFAULT : Addr) (h0 : Heap) (n0 : Nat) (v : Option Value) (h : Heap) (L : List Loc) : Prop := v = some (.int (1 : Int32)) ∧ Fr n0 L
set_option maxRecDepth 65536 in
set_option maxHeartbeats 40000000 in
theorem rm0 (l : Launch) (Z : State) (a0 : Array Value) (hw : ∀ d ∈ tables_1, d.before a0 Z = true) (ws : List Jvm.Cond) (u0 : Int32) (u1 : Int32) (u2 : Int32) (u3 : Int32) (u4 : Int32) (u5 : Int32) (a_STROKE : Addr) (a_FILL : Addr) (a_FILL_AND_STROKE : Addr) (a_BUTT : Addr) (a_Cap_ROUND : Addr) (a_SQUARE : Addr) (a_MITER : Addr) (a_Join_ROUND : Addr) (a_BEVEL : Addr) (a_LEFT : Addr) (a_CENTER : Addr) (a_RIGHT : Addr) (a_DEFAULT : Addr) (h0 : Heap) (n0 : Nat) (Z0 : n0 ≤ h0.size) (O0 : Old Z n0 h0) (S_STROKE : Sta Z Z.heap "com/example/decorum/decorum/graphics/Paint$Style" "STROKE" "Lcom/example/decorum/decorum/graphics/Paint$Style;" (.ref a_STROKE)) (S_FILL : Sta Z Z.heap "com/example/decorum/decorum/graphics/Paint$Style" "FILL" "Lcom/example/decorum/decorum/graphics/Paint$Style;" (.ref a_FILL)) (S_FILL_AND_STROKE : Sta Z Z.heap "com/example/decorum/decorum/graphics/Paint$Style" "FILL_AND_STROKE" "Lcom/example/decorum/decorum/graphics/Paint$Style;" (.ref a_FILL_AND_STROKE)) (S_BUTT : Sta Z Z.heap "com/example/decorum/decorum/graphics/Paint$Cap" "BUTT" "Lcom/example/decorum/decorum/graphics/Paint$Cap;" (.ref a_BUTT)) (S_Cap_ROUND : Sta Z Z.heap "com/example/decorum/decorum/graphics/Paint$Cap" "ROUND" "Lcom/example/decorum/decorum/graphics/Paint$Cap;" (.ref a_Cap_ROUND)) (S_SQUARE : Sta Z Z.heap "com/example/decorum/decorum/graphics/Paint$Cap" "SQUARE" "Lcom/example/decorum/decorum/graphics/Paint$Cap;" (.ref a_SQUARE)) (S_MITER : Sta Z Z.heap "com/example/decorum/decorum/graphics/Paint$Join" "MITER" "Lcom/example/decorum/decorum/graphics/Paint$Join;" (.ref a_MITER)) (S_Join_ROUND : Sta Z Z.heap "com/example/decorum/decorum/graphics/Paint$Join" "ROUND" "Lcom/example/decorum/decorum/graphics/Paint$Join;" (.ref a_Join_ROUND)) (S_BEVEL : Sta Z Z.heap "com/example/decorum/decorum/graphics/Paint$Join" "BEVEL" "Lcom/example/decorum/decorum/graphics/Paint$Join;" (.ref a_BEVEL)) (S_LEFT : Sta Z Z.heap "com/example/decorum/decorum/graphics/Paint$Align" "LEFT" "Lcom/example/decorum/decorum/graphics/Paint$Align;" (.ref a_LEFT)) (S_CENTER : Sta Z Z.heap "com/example/decorum/decorum/graphics/Paint$Align" "CENTER" "Lcom/example/decorum/decorum/graphics/Paint$Align;" (.ref a_CENTER)) (S_RIGHT : Sta Z Z.heap "com/example/decorum/decorum/graphics/Paint$Align" "RIGHT" "Lcom/example/decorum/decorum/graphics/Paint$Align;" (.ref a_RIGHT)) (S_DEFAULT : Sta Z Z.heap "com/example/decorum/decorum/graphics/Typeface" "DEFAULT" "Lcom/example/decorum/decorum/graphics/Typeface;" (.ref a_DEFAULT)) (E_a_STROKE : Exa Z Z.heap a_STROKE "com/example/decorum/decorum/graphics/Paint$Style") (E_a_FILL : Exa Z Z.heap a_FILL "com/example/decorum/decorum/graphics/Paint$Style") (E_a_FILL_AND_STROKE : Exa Z Z.heap a_FILL_AND_STROKE "com/example/decorum/decorum/graphics/Paint$Style") (E_a_BUTT : Exa Z Z.heap a_BUTT "com/example/decorum/decorum/graphics/Paint$Cap") (E_a_Cap_ROUND : Exa Z Z.heap a_Cap_ROUND "com/example/decorum/decorum/graphics/Paint$Cap") (E_a_SQUARE : Exa Z Z.heap a_SQUARE "com/example/decorum/decorum/graphics/Paint$Cap") (E_a_MITER : Exa Z Z.heap a_MITER "com/example/decorum/decorum/graphics/Paint$Join") (E_a_Join_ROUND : Exa Z Z.heap a_Join_ROUND "com/example/decorum/decorum/graphics/Paint$Join") (E_a_BEVEL : Exa Z Z.heap a_BEVEL "com/example/decorum/decorum/graphics/Paint$Join") (E_a_LEFT : Exa Z Z.heap a_LEFT "com/example/decorum/decorum/graphics/Paint$Align") (E_a_CENTER : Exa Z Z.heap a_CENTER "com/example/decorum/decorum/graphics/Paint$Align") (E_a_RIGHT : Exa Z Z.heap a_RIGHT "com/example/decorum/decorum/graphics/Paint$Align") :
    MetFree l x (head1 (Jvm.Cond.code x code maxLocals ret :: ws) room_1) (fun a U => a = #[(.int u0), (.int u1), (.int u2), (.int u3), (.int u4), (.int u5)] ∧ Z.Warmed39 U.vm ∧ U.heap = h0 ∧ CHv Z EL U.vm h0) (fun _ _ _ _ _ => True) (fun _ U o U' => ∃ v L, o = .returned v ∧ Q0 Z u0 u1 u2 u3 u4 u5 a_STROKE a_FILL a_FILL_AND_STROKE a_BUTT a_Cap_ROUND a_SQUARE a_MITER a_Join_ROUND a_BEVEL a_LEFT a_CENTER a_RIGHT a_DEFAULT h0 n0 v U'.heap L ∧ CHr Z EL U.vm U.heap U'.vm U'.heap ∧ ReturnedEndW U o U' L room_1.cells room_1.slots) := by
  refine MetFree.of_bodySF (plainFor_of_name pn_com_example_decorum_decorum_graphics_PaintSetPinLaw) hisR ?_
  intro p e s m args below meth c s₁ Bd hml0 hP hK
  obtain ⟨rfl, hZ, hh, hC0⟩ := hP
  replace hZ : Z.Warmed39 (s.setVm s.vm).vm := hZ
  have hx := Bd.exec
  have hby := Bd.bytes
  have hml : c.maxLocals = 14 := hml0
  have hown : (s.setVm s.vm).vm.findClass "com/example/decorum/decorum/graphics/PaintSetPinLaw" = some m.cls := findClass_of_methodNamed Bd.named
  have hnm := (name_of_methodNamed Bd.named Bd.method).1
  have X0 : Stand p l e room_1 (s.setVm s.vm) m #[(.int u0), (.int u1), (.int u2), (.int u3), (.int u4), (.int u5)] below meth c s₁ [] 0 0 := Stand.of_body Bd
  have e0 : s₁.heap = h0 := by rw [← hh, Bd.state]; rfl
  have N0 := Fr.nil n0
  have pre0 : ∀ t, Steps p.tables e below (s₁.setTop (mkF m 0 #[.val (.int u0), .val (.int u1), .val (.int u2), .val (.int u3), .val (.int u4), .val (.int u5), .unset, .unset, .unset, .unset, .unset, .unset, .unset, .unset] [])) t → Steps p.tables e below (s₁.setTop (entryFrame m #[(.int u0), (.int u1), (.int u2), (.int u3), (.int u4), (.int u5)] maxLocals)) t := fun t k => castTop (ef_0 m u0 u1 u2 u3 u4 u5) k
  have hS0 : s.Since s.vm s.heap.size := own_since s
  have hk0 : s.heap.size ≤ h0.size := Nat.le_of_eq (congrArg Array.size hh)
  have C0 : CHr Z EL s.vm h0 s.vm h0 := CHr.refl hC0
  have wS : ∀ d ∈ Bundle.stringAtoms, d.before a0 Z = true := fun d hd => hw d ((by decide +kernel : ∀ d ∈ Bundle.stringAtoms, d ∈ tables_1) d hd)
  obtain ⟨_, _, ⟨T1, L1, k1, n1⟩, -, X1, ⟨Lc1, hQ1, l1, y1, z1⟩, st1⟩ := Jvm.LawKit.callS X0 hx (y := (⟨"com/example/decorum/decorum/graphics/PaintSetPinLaw", "style", "(I)Lcom/example/decorum/decorum/graphics/Paint$Style;"⟩ : MethodName)) hown (mvT hZ (hw _ (List.mem_of_getElem? (i := 0) rfl))) (mvT hZ (hw _ (List.mem_of_getElem? (i := 1) rfl))) (mvT hZ (hw _ (List.mem_of_getElem? (i := 2) rfl))) (mvT hZ (hw _ (List.mem_of_getElem? (i := 3) rfl))) (by decide) (backOf (W := 0) (rm1 l Z a0 hw [] (u3 &&& (3 : Int32)) a_STROKE a_FILL_AND_STROKE a_FILL h0 n0 Z0 O0 S_STROKE S_FILL_AND_STROKE S_FILL) hZ (hw _ (List.mem_of_getElem? (i := 3) rfl)) (hw _ (List.mem_of_getElem? (i := 2) rfl)) (by decide) (by decide)) (g := (mkF m 3 #[.val (.int u0), .val (.int u1), .val (.int u2), .val (.int u3), .val (.int u4), .val (.int u5), .unset, .unset, .unset, .unset, .unset, .unset, .unset, .unset] [(.int (u3 &&& (3 : Int32)))])) rfl (by rw [hml]; rfl) (argsL := [(.int (u3 &&& (3 : Int32)))]) (rest := []) (lenOf pd_12 rfl) rfl (by show 2 * 0 + _ ≤ _; exact Nat.le_of_eq rfl) (hb hby at_3) (fun _ _ => ⟨rfl, e0, (by decide : 0 + 0 ≤ _), (by decide : 0 + 0 ≤ _)⟩)
  dsimp only [Pt.U, Pt.locs, Pt.cells, Pt.slots] at X1 l1 y1 z1 st1 hQ1
  replace y1 : k1 = 0 := y1
  replace z1 : n1 = 0 := z1
  rw [y1, z1] at X1
  obtain ⟨rfl, N1q, e1⟩ := hQ1
  have N1 : Fr n0 L1 := l1 ▸ Fr.app N0 N1q
  obtain ⟨_, _, ⟨T2, L2, k2, n2⟩, -, X2, ⟨Lc2, hQ2, l2, y2, z2⟩, st2⟩ := Jvm.LawKit.callS X1 hx (y := (⟨"com/example/decorum/decorum/graphics/PaintSetPinLaw", "cap", "(I)Lcom/example/decorum/decorum/graphics/Paint$Cap;"⟩ : MethodName)) hown (mvT hZ (hw _ (List.mem_of_getElem? (i := 7) rfl))) (mvT hZ (hw _ (List.mem_of_getElem? (i := 8) rfl))) (mvT hZ (hw _ (List.mem_of_getElem? (i := 2) rfl))) (mvT hZ (hw _ (List.mem_of_getElem? (i := 9) rfl))) (by decide) (backOf (W := 0) (rm2 l Z a0 hw [] ((u3 >>> ((2 : Int32) &&& 31)) &&& (3 : Int32)) a_Cap_ROUND a_SQUARE a_BUTT h0 n0 Z0 O0 S_Cap_ROUND S_SQUARE S_BUTT) hZ (hw _ (List.mem_of_getElem? (i := 9) rfl)) (hw _ (List.mem_of_getElem? (i := 2) rfl)) (by decide) (by decide)) (g := (mkF m 13 #[.val (.int u0), .val (.int u1), .val (.int u2), .val (.int u3), .val (.int u4), .val (.int u5), .val (.ref (pk (u3 &&& (3 : Int32)) a_STROKE a_FILL_AND_STROKE a_FILL)), .unset, .unset, .unset, .unset, .unset, .unset, .unset] [(.int ((u3 >>> ((2 : Int32) &&& 31)) &&& (3 : Int32)))])) rfl (by rw [hml]; rfl) (argsL := [(.int ((u3 >>> ((2 : Int32) &&& 31)) &&& (3 : Int32)))]) (rest := []) (lenOf pd_10 rfl) rfl (by show 2 * 0 + _ ≤ _; exact Nat.le_of_eq rfl) (hb hby at_13) (fun _ _ => ⟨rfl, e1, (by decide : 0 + 0 ≤ _), (by decide : 0 + 0 ≤ _)⟩)
  dsimp only [Pt.U, Pt.locs, Pt.cells, Pt.slots] at X2 l2 y2 z2 st2 hQ2
  replace y2 : k2 = 0 := y2
  replace z2 : n2 = 0 := z2
  rw [y2, z2] at X2
  obtain ⟨rfl, N2q, e2⟩ := hQ2
  have N2 : Fr n0 L2 := l2 ▸ Fr.app N1 N2q
  obtain ⟨_, _, ⟨T3, L3, k3, n3⟩, -, X3, ⟨Lc3, hQ3, l3, y3, z3⟩, st3⟩ := Jvm.LawKit.callS X2 hx (y := (⟨"com/example/decorum/decorum/graphics/PaintSetPinLaw", "join", "(I)Lcom/example/decorum/decorum/graphics/Paint$Join;"⟩ : MethodName)) hown (mvT hZ (hw _ (List.mem_of_getElem? (i := 13) rfl))) (mvT hZ (hw _ (List.mem_of_getElem? (i := 14) rfl))) (mvT hZ (hw _ (List.mem_of_getElem? (i := 2) rfl))) (mvT hZ (hw _ (List.mem_of_getElem? (i := 15) rfl))) (by decide) (backOf (W := 0) (rm3 l Z a0 hw [] ((u3 >>> ((4 : Int32) &&& 31)) &&& (3 : Int32)) a_Join_ROUND a_BEVEL a_MITER h0 n0 Z0 O0 S_Join_ROUND S_BEVEL S_MITER) hZ (hw _ (List.mem_of_getElem? (i := 15) rfl)) (hw _ (List.mem_of_getElem? (i := 2) rfl)) (by decide) (by decide)) (g := (mkF m 23 #[.val (.int u0), .val (.int u1), .val (.int u2), .val (.int u3), .val (.int u4), .val (.int u5), .val (.ref (pk (u3 &&& (3 : Int32)) a_STROKE a_FILL_AND_STROKE a_FILL)), .val (.ref (pk ((u3 >>> ((2 : Int32) &&& 31)) &&& (3 : Int32)) a_Cap_ROUND a_SQUARE a_BUTT)), .unset, .unset, .unset, .unset, .unset, .unset] [(.int ((u3 >>> ((4 : Int32) &&& 31)) &&& (3 : Int32)))])) rfl (by rw [hml]; rfl) (argsL := [(.int ((u3 >>> ((4 : Int32) &&& 31)) &&& (3 : Int32)))]) (rest := []) (lenOf pd_11 rfl) rfl (by show 2 * 0 + _ ≤ _; exact Nat.le_of_eq rfl) (hb hby at_23) (fun _ _ => ⟨rfl, e2, (by decide : 0 + 0 ≤ _), (by decide : 0 + 0 ≤ _)⟩)
  dsimp only [Pt.U, Pt.locs, Pt.cells, Pt.slots] at X3 l3 y3 z3 st3 hQ3
  replace y3 : k3 = 0 := y3
  replace z3 : n3 = 0 := z3
  rw [y3, z3] at X3
  obtain ⟨rfl, N3q, e3⟩ := hQ3
  have N3 : Fr n0 L3 := l3 ▸ Fr.app N2 N3q
  obtain ⟨_, _, ⟨T4, L4, k4, n4⟩, -, X4, ⟨Lc4, hQ4, l4, y4, z4⟩, st4⟩ := Jvm.LawKit.callS X3 hx (y := (⟨"com/example/decorum/decorum/graphics/PaintSetPinLaw", "align", "(I)Lcom/example/decorum/decorum/graphics/Paint$Align;"⟩ : MethodName)) hown (mvT hZ (hw _ (List.mem_of_getElem? (i := 19) rfl))) (mvT hZ (hw _ (List.mem_of_getElem? (i := 20) rfl))) (mvT hZ (hw _ (List.mem_of_getElem? (i := 2) rfl))) (mvT hZ (hw _ (List.mem_of_getElem? (i := 21) rfl))) (by decide) (backOf (W := 0) (rm4 l Z a0 hw [] ((u3 >>> ((6 : Int32) &&& 31)) &&& (3 : Int32)) a_CENTER a_RIGHT a_LEFT h0 n0 Z0 O0 S_CENTER S_RIGHT S_LEFT) hZ (hw _ (List.mem_of_getElem? (i := 21) rfl)) (hw _ (List.mem_of_getElem? (i := 2) rfl)) (by decide) (by decide)) (g := (mkF m 34 #[.val (.int u0), .val (.int u1), .val (.int u2), .val (.int u3), .val (.int u4), .val (.int u5), .val (.ref (pk (u3 &&& (3 : Int32)) a_STROKE a_FILL_AND_STROKE a_FILL)), .val (.ref (pk ((u3 >>> ((2 : Int32) &&& 31)) &&& (3 : Int32)) a_Cap_ROUND a_SQUARE a_BUTT)), .val (.ref (pk ((u3 >>> ((4 : Int32) &&& 31)) &&& (3 : Int32)) a_Join_ROUND a_BEVEL a_MITER)), .unset, .unset, .unset, .unset, .unset] [(.int ((u3 >>> ((6 : Int32) &&& 31)) &&& (3 : Int32)))])) rfl (by rw [hml]; rfl) (argsL := [(.int ((u3 >>> ((6 : Int32) &&& 31)) &&& (3 : Int32)))]) (rest := []) (lenOf pd_9 rfl) rfl (by show 2 * 0 + _ ≤ _; exact Nat.le_of_eq rfl) (hb hby at_34) (fun _ _ => ⟨rfl, e3, (by decide : 0 + 0 ≤ _), (by decide : 0 + 0 ≤ _)⟩)
  dsimp only [Pt.U, Pt.locs, Pt.cells, Pt.slots] at X4 l4 y4 z4 st4 hQ4
  replace y4 : k4 = 0 := y4
  replace z4 : n4 = 0 := z4
  rw [y4, z4] at X4
  obtain ⟨rfl, N4q, e4⟩ := hQ4
  have N4 : Fr n0 L4 := l4 ▸ Fr.app N3 N4q
  have st5 := X4.ldcInt hx hown (mvT hZ (hw _ (List.mem_of_getElem? (i := 25) rfl))) (g := (mkF m 41 #[.val (.int u0), .val (.int u1), .val (.int u2), .val (.int u3), .val (.int u4), .val (.int u5), .val (.ref (pk (u3 &&& (3 : Int32)) a_STROKE a_FILL_AND_STROKE a_FILL)), .val (.ref (pk ((u3 >>> ((2 : Int32) &&& 31)) &&& (3 : Int32)) a_Cap_ROUND a_SQUARE a_BUTT)), .val (.ref (pk ((u3 >>> ((4 : Int32) &&& 31)) &&& (3 : Int32)) a_Join_ROUND a_BEVEL a_MITER)), .val (.ref (pk ((u3 >>> ((6 : Int32) &&& 31)) &&& (3 : Int32)) a_CENTER a_RIGHT a_LEFT)), .unset, .unset, .unset, .unset] [(.int u4)])) rfl (hb hby at_41)
  obtain ⟨fv6, fe6⟩ : ∃ z, z = FP.i2f (u4 &&& (1048575 : Int32)) := ⟨_, rfl⟩
  have st7 := X4.ldcInt hx hown (mvT hZ (hw _ (List.mem_of_getElem? (i := 25) rfl))) (g := (mkF m 49 #[.val (.int u0), .val (.int u1), .val (.int u2), .val (.int u3), .val (.int u4), .val (.int u5), .val (.ref (pk (u3 &&& (3 : Int32)) a_STROKE a_FILL_AND_STROKE a_FILL)), .val (.ref (pk ((u3 >>> ((2 : Int32) &&& 31)) &&& (3 : Int32)) a_Cap_ROUND a_SQUARE a_BUTT)), .val (.ref (pk ((u3 >>> ((4 : Int32) &&& 31)) &&& (3 : Int32)) a_Join_ROUND a_BEVEL a_MITER)), .val (.ref (pk ((u3 >>> ((6 : Int32) &&& 31)) &&& (3 : Int32)) a_CENTER a_RIGHT a_LEFT)), .val (.float fv6), .unset, .unset, .unset] [(.int u5)])) rfl (hb hby at_49)
  obtain ⟨fv8, fe8⟩ : ∃ z, z = FP.i2f (u5 &&& (1048575 : Int32)) := ⟨_, rfl⟩
  obtain ⟨T9, h9, X9, e9, E9, A9, D9, -, st9⟩ := newO X4 hx hZ hown (hw _ (List.mem_of_getElem? (i := 26) rfl)) (hw _ (List.mem_of_getElem? (i := 27) rfl)) (hw _ (List.mem_of_getElem? (i := 28) rfl)) e4 (g := (mkF m 55 #[.val (.int u0), .val (.int u1), .val (.int u2), .val (.int u3), .val (.int u4), .val (.int u5), .val (.ref (pk (u3 &&& (3 : Int32)) a_STROKE a_FILL_AND_STROKE a_FILL)), .val (.ref (pk ((u3 >>> ((2 : Int32) &&& 31)) &&& (3 : Int32)) a_Cap_ROUND a_SQUARE a_BUTT)), .val (.ref (pk ((u3 >>> ((4 : Int32) &&& 31)) &&& (3 : Int32)) a_Join_ROUND a_BEVEL a_MITER)), .val (.ref (pk ((u3 >>> ((6 : Int32) &&& 31)) &&& (3 : Int32)) a_CENTER a_RIGHT a_LEFT)), .val (.float fv6), .val (.float fv8), .unset, .unset] [])) rfl (hb hby at_55) (by decide) (by decide)
  obtain ⟨b9, g9⟩ : ∃ z, z = h0.size := ⟨_, rfl⟩
  rw [← g9] at A9 D9 st9
  have g_b9 : n0 ≤ b9 := Nat.le_trans Z0 (Nat.le_of_eq g9.symm)
  have sz_b9 : h0.size ≤ b9 := Nat.le_trans (Keep.refl h0 []).1 (Nat.le_of_eq g9.symm)
  have Z9 : n0 ≤ h9.size := Nat.le_trans Z0 E9.1
  have KK9 := (Keep.refl h0 []).ext E9
  have O9 := O0.ext E9
  have C9 := C0.trans (CHr.ext E9 C0.1)
  have hk9 := Nat.le_trans hk0 E9.1
  have F9_flags : Fld Z h9 b9 "com/example/decorum/decorum/graphics/Paint" "flags" "I" (.int (0 : Int32)) := D9 (Or.inl (hw _ (List.mem_of_getElem? (i := 36) rfl))) (ty := .int) (by decide)
  have F9_color : Fld Z h9 b9 "com/example/decorum/decorum/graphics/Paint" "color" "I" (.int (0 : Int32)) := D9 (Or.inl (hw _ (List.mem_of_getElem? (i := 39) rfl))) (ty := .int) (by decide)
  have F9_style : Fld Z h9 b9 "com/example/decorum/decorum/graphics/Paint" "style" "Lcom/example/decorum/decorum/graphics/Paint$Style;" .null := D9 (Or.inl (hw _ (List.mem_of_getElem? (i := 43) rfl))) (ty := (.object "com/example/decorum/decorum/graphics/Paint$Style")) (by decide)
  have F9_strokeCap : Fld Z h9 b9 "com/example/decorum/decorum/graphics/Paint" "strokeCap" "Lcom/example/decorum/decorum/graphics/Paint$Cap;" .null := D9 (Or.inl (hw _ (List.mem_of_getElem? (i := 46) rfl))) (ty := (.object "com/example/decorum/decorum/graphics/Paint$Cap")) (by decide)
  have F9_strokeJoin : Fld Z h9 b9 "com/example/decorum/decorum/graphics/Paint" "strokeJoin" "Lcom/example/decorum/decorum/graphics/Paint$Join;" .null := D9 (Or.inl (hw _ (List.mem_of_getElem? (i := 49) rfl))) (ty := (.object "com/example/decorum/decorum/graphics/Paint$Join")) (by decide)
  have F9_typeface : Fld Z h9 b9 "com/example/decorum/decorum/graphics/Paint" "typeface" "Lcom/example/decorum/decorum/graphics/Typeface;" .null := D9 (Or.inl (hw _ (List.mem_of_getElem? (i := 54) rfl))) (ty := (.object "com/example/decorum/decorum/graphics/Typeface")) (by decide)
  have F9_textSize : Fld Z h9 b9 "com/example/decorum/decorum/graphics/Paint" "textSize" "F" (.float (0 : UInt32)) := D9 (Or.inl (hw _ (List.mem_of_getElem? (i := 57) rfl))) (ty := .float) (by decide)
  have F9_textAlign : Fld Z h9 b9 "com/example/decorum/decorum/graphics/Paint" "textAlign" "Lcom/example/decorum/decorum/graphics/Paint$Align;" .null := D9 (Or.inl (hw _ (List.mem_of_getElem? (i := 60) rfl))) (ty := (.object "com/example/decorum/decorum/graphics/Paint$Align")) (by decide)
  have F9_strokeWidth : Fld Z h9 b9 "com/example/decorum/decorum/graphics/Paint" "strokeWidth" "F" (.float (0 : UInt32)) := D9 (Or.inl (hw _ (List.mem_of_getElem? (i := 92) rfl))) (ty := .float) (by decide)
  obtain ⟨_, _, ⟨T10, L10, k10, n10⟩, -, X10, ⟨Lc10, hQ10, l10, y10, z10⟩, st10⟩ := X9.specialBack hx (y := (⟨"com/example/decorum/decorum/graphics/Paint", "<init>", "(I)V"⟩ : MethodName)) rfl hown (mvT hZ (hw _ (List.mem_of_getElem? (i := 29) rfl))) (mvT hZ (hw _ (List.mem_of_getElem? (i := 30) rfl))) (mvT hZ (hw _ (List.mem_of_getElem? (i := 31) rfl))) (by decide) (backOf (W := 1) (rm5 l Z a0 hw [] b9 u0 a_FILL a_BUTT a_MITER a_DEFAULT a_LEFT h9 n0 Z9 O9 g_b9 A9 F9_flags F9_color F9_style F9_strokeWidth F9_strokeCap F9_strokeJoin F9_typeface F9_textSize F9_textAlign S_FILL S_BUTT S_MITER S_DEFAULT S_LEFT) hZ (hw _ (List.mem_of_getElem? (i := 31) rfl)) (hw _ (List.mem_of_getElem? (i := 28) rfl)) (by decide) (by decide)) (g := (mkF m 60 #[.val (.int u0), .val (.int u1), .val (.int u2), .val (.int u3), .val (.int u4), .val (.int u5), .val (.ref (pk (u3 &&& (3 : Int32)) a_STROKE a_FILL_AND_STROKE a_FILL)), .val (.ref (pk ((u3 >>> ((2 : Int32) &&& 31)) &&& (3 : Int32)) a_Cap_ROUND a_SQUARE a_BUTT)), .val (.ref (pk ((u3 >>> ((4 : Int32) &&& 31)) &&& (3 : Int32)) a_Join_ROUND a_BEVEL a_MITER)), .val (.ref (pk ((u3 >>> ((6 : Int32) &&& 31)) &&& (3 : Int32)) a_CENTER a_RIGHT a_LEFT)), .val (.float fv6), .val (.float fv8), .unset, .unset] [(.int u0), (.ref b9), (.ref b9)])) rfl (by rw [hml]; rfl) (Steps.refl _) (a := b9) (argsL := [(.int u0)]) (rest := [(.ref b9)]) (lenOf pd_13 rfl) rfl (by show 2 * 0 + _ ≤ _; exact Nat.le_of_eq rfl) (hb hby at_60) (fun _ _ => ⟨rfl, e9, (by decide : 1 + 0 ≤ _), (by decide : 9 + 0 ≤ _)⟩)
  dsimp only [Pt.U, Pt.locs, Pt.cells, Pt.slots] at X10 l10 y10 z10 st10 hQ10
  replace y10 : k10 = 1 := y10
  replace z10 : n10 = 9 := z10
  rw [y10, z10] at X10
  obtain ⟨rfl, N10q, K10, A10, F10_flags, F10_color, F10_style, F10_strokeWidth, F10_strokeCap, F10_strokeJoin, F10_typeface, F10_textSize, F10_textAlign⟩ := hQ10
  have N10 : Fr n0 L10 := l10 ▸ Fr.app N4 N10q
  have Z10 : n0 ≤ T10.heap.size := Nat.le_trans Z9 K10.1
  have KK10 := KK9.trans K10 (allS (P := fun x => x ∈ [] ∨ h0.size ≤ x) (Or.inr sz_b9) all0)
  have O10 := O9.keep K10 (allS g_b9 all0)
  have C10 := C9.trans (CHr.keep K10 (sfS (Safe.exa hZ.alike A9 (by decide) (by decide)) sf0) C9.1)
  have hk10 := Nat.le_trans hk9 K10.1
  obtain ⟨cq11, kq11, q11a, q11b, q11c⟩ := isOf hZ rfl A10
  obtain ⟨_, _, ⟨T11, L11, k11, n11⟩, -, X11, ⟨Lc11, hQ11, l11, y11, z11⟩, st11⟩ := X10.virtualBack hx (y := (⟨"com/example/decorum/decorum/graphics/Paint", "setColor", "(I)V"⟩ : MethodName)) (z := (⟨"com/example/decorum/decorum/graphics/Paint", "setColor", "(I)V"⟩ : MethodName)) hown (mvT hZ (hw _ (List.mem_of_getElem? (i := 61) rfl))) (mvT hZ (hw _ (List.mem_of_getElem? (i := 62) rfl))) (notFace_of_selects (args := #[]) (mvT hZ (hw _ (List.mem_of_getElem? (i := 64) rfl)))) (mvT hZ (hw _ (List.mem_of_getElem? (i := 64) rfl))) (mvT hZ (hw _ (List.mem_of_getElem? (i := 63) rfl))) (by decide) (backOf (W := 0) (rm7 l Z a0 hw [] b9 u2 u0 (-16777216 : Int32) a_FILL (0 : UInt32) a_BUTT a_MITER a_DEFAULT (1094713344 : UInt32) a_LEFT T10.heap n0 Z10 g_b9 A10 F10_flags F10_color F10_style F10_strokeWidth F10_strokeCap F10_strokeJoin F10_typeface F10_textSize F10_textAlign) hZ (hw _ (List.mem_of_getElem? (i := 65) rfl)) (hw _ (List.mem_of_getElem? (i := 28) rfl)) (by decide) (by decide)) q11a q11c (g := (mkF m 68 #[.val (.int u0), .val (.int u1), .val (.int u2), .val (.int u3), .val (.int u4), .val (.int u5), .val (.ref (pk (u3 &&& (3 : Int32)) a_STROKE a_FILL_AND_STROKE a_FILL)), .val (.ref (pk ((u3 >>> ((2 : Int32) &&& 31)) &&& (3 : Int32)) a_Cap_ROUND a_SQUARE a_BUTT)), .val (.ref (pk ((u3 >>> ((4 : Int32) &&& 31)) &&& (3 : Int32)) a_Join_ROUND a_BEVEL a_MITER)), .val (.ref (pk ((u3 >>> ((6 : Int32) &&& 31)) &&& (3 : Int32)) a_CENTER a_RIGHT a_LEFT)), .val (.float fv6), .val (.float fv8), .val (.ref b9), .unset] [(.int u2), (.ref b9)])) rfl (by rw [hml]; rfl) (Steps.refl _) (argsL := [(.int u2)]) (rest := []) (lenOf pd_13 rfl) rfl (by show 2 * 0 + _ ≤ _; exact Nat.le_of_eq rfl) (hb hby at_68) (fun _ _ => ⟨rfl, rfl, (by decide : 1 + 0 ≤ _), (by decide : 9 + 0 ≤ _)⟩)
  dsimp only [Pt.U, Pt.locs, Pt.cells, Pt.slots] at X11 l11 y11 z11 st11 hQ11
  replace y11 : k11 = 1 := y11
  replace z11 : n11 = 9 := z11
  rw [y11, z11] at X11
  obtain ⟨rfl, N11q, K11, A11, F11_flags, F11_color, F11_style, F11_strokeWidth, F11_strokeCap, F11_strokeJoin, F11_typeface, F11_textSize, F11_textAlign⟩ := hQ11
  have N11 : Fr n0 L11 := l11 ▸ Fr.app N10 N11q
  have Z11 : n0 ≤ T11.heap.size := Nat.le_trans Z10 K11.1
  have KK11 := KK10.trans K11 (allS (P := fun x => x ∈ [] ∨ h0.size ≤ x) (Or.inr sz_b9) all0)
  have O11 := O10.keep K11 (allS g_b9 all0)
  have C11 := C10.trans (CHr.keep K11 (sfS (Safe.exa hZ.alike A10 (by decide) (by decide)) sf0) C10.1)
  have hk11 := Nat.le_trans hk10 K11.1
  obtain ⟨cq12, kq12, q12a, q12b, q12c⟩ := isOf hZ rfl A11
  obtain ⟨_, _, ⟨T12, L12, k12, n12⟩, -, X12, hS12, gr12, ⟨Lc12, hQ12, l12, y12, z12, Cq12⟩, st12⟩ := X11.virtualBackS hx (y := (⟨"com/example/decorum/decorum/graphics/Paint", "setStyle", "(Lcom/example/decorum/decorum/graphics/Paint$Style;)V"⟩ : MethodName)) (z := (⟨"com/example/decorum/decorum/graphics/Paint", "setStyle", "(Lcom/example/decorum/decorum/graphics/Paint$Style;)V"⟩ : MethodName)) hown (mvT hZ (hw _ (List.mem_of_getElem? (i := 66) rfl))) (mvT hZ (hw _ (List.mem_of_getElem? (i := 67) rfl))) (notFace_of_selects (args := #[]) (mvT hZ (hw _ (List.mem_of_getElem? (i := 69) rfl)))) (mvT hZ (hw _ (List.mem_of_getElem? (i := 69) rfl))) (mvT hZ (hw _ (List.mem_of_getElem? (i := 68) rfl))) (by decide) (backOfSH (W := 0) (rm8 l Z a0 hw [] b9 (pk (u3 &&& (3 : Int32)) a_STROKE a_FILL_AND_STROKE a_FILL) u0 u2 a_FILL (0 : UInt32) a_BUTT a_MITER a_DEFAULT (1094713344 : UInt32) a_LEFT T11.heap n0 Z11 g_b9 A11 F11_flags F11_color F11_style F11_strokeWidth F11_strokeCap F11_strokeJoin F11_typeface F11_textSize F11_textAlign (pk_exa _ (E_a_STROKE.ext O11.2) (E_a_FILL_AND_STROKE.ext O11.2) (E_a_FILL.ext O11.2))) hZ (hw _ (List.mem_of_getElem? (i := 70) rfl)) (hw _ (List.mem_of_getElem? (i := 28) rfl)) (by decide) (by decide) (hEL hw) C11.1) q12a q12c (g := (mkF m 75 #[.val (.int u0), .val (.int u1), .val (.int u2), .val (.int u3), .val (.int u4), .val (.int u5), .val (.ref (pk (u3 &&& (3 : Int32)) a_STROKE a_FILL_AND_STROKE a_FILL)), .val (.ref (pk ((u3 >>> ((2 : Int32) &&& 31)) &&& (3 : Int32)) a_Cap_ROUND a_SQUARE a_BUTT)), .val (.ref (pk ((u3 >>> ((4 : Int32) &&& 31)) &&& (3 : Int32)) a_Join_ROUND a_BEVEL a_MITER)), .val (.ref (pk ((u3 >>> ((6 : Int32) &&& 31)) &&& (3 : Int32)) a_CENTER a_RIGHT a_LEFT)), .val (.float fv6), .val (.float fv8), .val (.ref b9), .unset] [(.ref (pk (u3 &&& (3 : Int32)) a_STROKE a_FILL_AND_STROKE a_FILL)), (.ref b9)])) rfl (by rw [hml]; rfl) (Steps.refl _) (argsL := [(.ref (pk (u3 &&& (3 : Int32)) a_STROKE a_FILL_AND_STROKE a_FILL))]) (rest := []) (lenOf pd_17 rfl) rfl (by show 2 * 0 + _ ≤ _; exact Nat.le_of_eq rfl) (hb hby at_75) (fun _ _ => ⟨rfl, rfl, (by decide : 1 + 2 ≤ _), (by decide : 9 + 24 ≤ _)⟩)
  dsimp only [Pt.U, Pt.locs, Pt.cells, Pt.slots] at X12 l12 y12 z12 st12 hQ12 hS12 gr12 Cq12
  replace y12 : k12 = 3 := y12
  replace z12 : n12 = 33 := z12
  rw [y12, z12] at X12
  obtain ⟨X12, hS12, hZ, hown⟩ := rebS hS0 (Nat.le_trans hk11 (Nat.le_of_eq (congrArg Array.size rfl).symm)) X12 hS12 gr12 hZ hown
  have hk12 := Nat.le_refl T12.heap.size
  obtain ⟨rfl, N12q, K12, A12, F12_flags, F12_color, F12_style, F12_strokeWidth, F12_strokeCap, F12_strokeJoin, F12_typeface, F12_textSize, F12_textAlign⟩ := hQ12
  have N12 : Fr n0 L12 := l12 ▸ Fr.app N11 N12q
  have Z12 : n0 ≤ T12.heap.size := Nat.le_trans Z11 K12.1
  have KK12 := KK11.trans K12 (allS (P := fun x => x ∈ [] ∨ h0.size ≤ x) (Or.inr sz_b9) all0)
  have O12 := O11.keep K12 (allS g_b9 all0)
  have C12 := C11.trans Cq12
  obtain ⟨cq13, kq13, q13a, q13b, q13c⟩ := isOf hZ rfl A12
  obtain ⟨_, _, ⟨T13, L13, k13, n13⟩, -, X13, ⟨Lc13, hQ13, l13, y13, z13⟩, st13⟩ := X12.virtualBack hx (y := (⟨"com/example/decorum/decorum/graphics/Paint", "setStrokeWidth", "(F)V"⟩ : MethodName)) (z := (⟨"com/example/decorum/decorum/graphics/Paint", "setStrokeWidth", "(F)V"⟩ : MethodName)) hown (mvT hZ (hw _ (List.mem_of_getElem? (i := 85) rfl))) (mvT hZ (hw _ (List.mem_of_getElem? (i := 86) rfl))) (notFace_of_selects (args := #[]) (mvT hZ (hw _ (List.mem_of_getElem? (i := 88) rfl)))) (mvT hZ (hw _ (List.mem_of_getElem? (i := 88) rfl))) (mvT hZ (hw _ (List.mem_of_getElem? (i := 87) rfl))) (by decide) (backOf (W := 0) (rm10 l Z a0 hw [] b9 fv6 u0 u2 (pk (u3 &&& (3 : Int32)) a_STROKE a_FILL_AND_STROKE a_FILL) (0 : UInt32) a_BUTT a_MITER a_DEFAULT (1094713344 : UInt32) a_LEFT T12.heap n0 Z12 g_b9 A12 F12_flags F12_color F12_style F12_strokeWidth F12_strokeCap F12_strokeJoin F12_typeface F12_textSize F12_textAlign (by rw [fe6]; exact own_c0 _) (by rw [fe6]; exact own_c1 _)) hZ (hw _ (List.mem_of_getElem? (i := 89) rfl)) (hw _ (List.mem_of_getElem? (i := 28) rfl)) (by decide) (by decide)) q13a q13c (g := (mkF m 82 #[.val (.int u0), .val (.int u1), .val (.int u2), .val (.int u3), .val (.int u4), .val (.int u5), .val (.ref (pk (u3 &&& (3 : Int32)) a_STROKE a_FILL_AND_STROKE a_FILL)), .val (.ref (pk ((u3 >>> ((2 : Int32) &&& 31)) &&& (3 : Int32)) a_Cap_ROUND a_SQUARE a_BUTT)), .val (.ref (pk ((u3 >>> ((4 : Int32) &&& 31)) &&& (3 : Int32)) a_Join_ROUND a_BEVEL a_MITER)), .val (.ref (pk ((u3 >>> ((6 : Int32) &&& 31)) &&& (3 : Int32)) a_CENTER a_RIGHT a_LEFT)), .val (.float fv6), .val (.float fv8), .val (.ref b9), .unset] [(.float fv6), (.ref b9)])) rfl (by rw [hml]; rfl) (Steps.refl _) (argsL := [(.float fv6)]) (rest := []) (lenOf pd_8 rfl) rfl (by show 2 * 0 + _ ≤ _; exact Nat.le_of_eq rfl) (hb hby at_82) (fun _ _ => ⟨rfl, rfl, (by decide : 3 + 0 ≤ _), (by decide : 33 + 0 ≤ _)⟩)
  dsimp only [Pt.U, Pt.locs, Pt.cells, Pt.slots] at X13 l13 y13 z13 st13 hQ13
  replace y13 : k13 = 3 := y13
  replace z13 : n13 = 33 := z13
  rw [y13, z13] at X13
  obtain ⟨rfl, N13q, K13, A13, F13_flags, F13_color, F13_style, F13_strokeWidth, F13_strokeCap, F13_strokeJoin, F13_typeface, F13_textSize, F13_textAlign⟩ := hQ13
  have N13 : Fr n0 L13 := l13 ▸ Fr.app N12 N13q
  have Z13 : n0 ≤ T13.heap.size := Nat.le_trans Z12 K13.1
  have KK13 := KK12.trans K13 (allS (P := fun x => x ∈ [] ∨ h0.size ≤ x) (Or.inr sz_b9) all0)
  have O13 := O12.keep K13 (allS g_b9 all0)
  have C13 := C12.trans (CHr.keep K13 (sfS (Safe.exa hZ.alike A12 (by decide) (by decide)) sf0) C12.1)
  have hk13 := Nat.le_trans hk12 K13.1
  obtain ⟨cq14, kq14, q14a, q14b, q14c⟩ := isOf hZ rfl A13
  obtain ⟨_, _, ⟨T14, L14, k14, n14⟩, -, X14, hS14, gr14, ⟨Lc14, hQ14, l14, y14, z14, Cq14⟩, st14⟩ := X13.virtualBackS hx (y := (⟨"com/example/decorum/decorum/graphics/Paint", "setStrokeCap", "(Lcom/example/decorum/decorum/graphics/Paint$Cap;)V"⟩ : MethodName)) (z := (⟨"com/example/decorum/decorum/graphics/Paint", "setStrokeCap", "(Lcom/example/decorum/decorum/graphics/Paint$Cap;)V"⟩ : MethodName)) hown (mvT hZ (hw _ (List.mem_of_getElem? (i := 93) rfl))) (mvT hZ (hw _ (List.mem_of_getElem? (i := 94) rfl))) (notFace_of_selects (args := #[]) (mvT hZ (hw _ (List.mem_of_getElem? (i := 96) rfl)))) (mvT hZ (hw _ (List.mem_of_getElem? (i := 96) rfl))) (mvT hZ (hw _ (List.mem_of_getElem? (i := 95) rfl))) (by decide) (backOfSH (W := 0) (rm11 l Z a0 hw [] b9 (pk ((u3 >>> ((2 : Int32) &&& 31)) &&& (3 : Int32)) a_Cap_ROUND a_SQUARE a_BUTT) u0 u2 (pk (u3 &&& (3 : Int32)) a_STROKE a_FILL_AND_STROKE a_FILL) fv6 a_BUTT a_MITER a_DEFAULT (1094713344 : UInt32) a_LEFT T13.heap n0 Z13 g_b9 A13 F13_flags F13_color F13_style F13_strokeWidth F13_strokeCap F13_strokeJoin F13_typeface F13_textSize F13_textAlign (pk_exa _ (E_a_Cap_ROUND.ext O13.2) (E_a_SQUARE.ext O13.2) (E_a_BUTT.ext O13.2))) hZ (hw _ (List.mem_of_getElem? (i := 97) rfl)) (hw _ (List.mem_of_getElem? (i := 28) rfl)) (by decide) (by decide) (hEL hw) C13.1) q14a q14c (g := (mkF m 89 #[.val (.int u0), .val (.int u1), .val (.int u2), .val (.int u3), .val (.int u4), .val (.int u5), .val (.ref (pk (u3 &&& (3 : Int32)) a_STROKE a_FILL_AND_STROKE a_FILL)), .val (.ref (pk ((u3 >>> ((2 : Int32) &&& 31)) &&& (3 : Int32)) a_Cap_ROUND a_SQUARE a_BUTT)), .val (.ref (pk ((u3 >>> ((4 : Int32) &&& 31)) &&& (3 : Int32)) a_Join_ROUND a_BEVEL a_MITER)), .val (.ref (pk ((u3 >>> ((6 : Int32) &&& 31)) &&& (3 : Int32)) a_CENTER a_RIGHT a_LEFT)), .val (.float fv6), .val (.float fv8), .val (.ref b9), .unset] [(.ref (pk ((u3 >>> ((2 : Int32) &&& 31)) &&& (3 : Int32)) a_Cap_ROUND a_SQUARE a_BUTT)), (.ref b9)])) rfl (by rw [hml]; rfl) (Steps.refl _) (argsL := [(.ref (pk ((u3 >>> ((2 : Int32) &&& 31)) &&& (3 : Int32)) a_Cap_ROUND a_SQUARE a_BUTT))]) (rest := []) (lenOf pd_15 rfl) rfl (by show 2 * 0 + _ ≤ _; exact Nat.le_of_eq rfl) (hb hby at_89) (fun _ _ => ⟨rfl, rfl, (by decide : 3 + 2 ≤ _), (by decide : 33 + 16 ≤ _)⟩)
  dsimp only [Pt.U, Pt.locs, Pt.cells, Pt.slots] at X14 l14 y14 z14 st14 hQ14 hS14 gr14 Cq14
  replace y14 : k14 = 5 := y14
  replace z14 : n14 = 49 := z14
  rw [y14, z14] at X14
  obtain ⟨X14, hS14, hZ, hown⟩ := rebS hS12 (Nat.le_trans hk13 (Nat.le_of_eq (congrArg Array.size rfl).symm)) X14 hS14 gr14 hZ hown
  have hk14 := Nat.le_refl T14.heap.size
  obtain ⟨rfl, N14q, K14, A14, F14_flags, F14_color, F14_style, F14_strokeWidth, F14_strokeCap, F14_strokeJoin, F14_typeface, F14_textSize, F14_textAlign⟩ := hQ14
  have N14 : Fr n0 L14 := l14 ▸ Fr.app N13 N14q
  have Z14 : n0 ≤ T14.heap.size := Nat.le_trans Z13 K14.1
  have KK14 := KK13.trans K14 (allS (P := fun x => x ∈ [] ∨ h0.size ≤ x) (Or.inr sz_b9) all0)
  have O14 := O13.keep K14 (allS g_b9 all0)
  have C14 := C13.trans Cq14
  obtain ⟨cq15, kq15, q15a, q15b, q15c⟩ := isOf hZ rfl A14
  obtain ⟨_, _, ⟨T15, L15, k15, n15⟩, -, X15, hS15, gr15, ⟨Lc15, hQ15, l15, y15, z15, Cq15⟩, st15⟩ := X14.virtualBackS hx (y := (⟨"com/example/decorum/decorum/graphics/Paint", "setStrokeJoin", "(Lcom/example/decorum/decorum/graphics/Paint$Join;)V"⟩ : MethodName)) (z := (⟨"com/example/decorum/decorum/graphics/Paint", "setStrokeJoin", "(Lcom/example/decorum/decorum/graphics/Paint$Join;)V"⟩ : MethodName)) hown (mvT hZ (hw _ (List.mem_of_getElem? (i := 101) rfl))) (mvT hZ (hw _ (List.mem_of_getElem? (i := 102) rfl))) (notFace_of_selects (args := #[]) (mvT hZ (hw _ (List.mem_of_getElem? (i := 104) rfl)))) (mvT hZ (hw _ (List.mem_of_getElem? (i := 104) rfl))) (mvT hZ (hw _ (List.mem_of_getElem? (i := 103) rfl))) (by decide) (backOfSH (W := 0) (rm12 l Z a0 hw [] b9 (pk ((u3 >>> ((4 : Int32) &&& 31)) &&& (3 : Int32)) a_Join_ROUND a_BEVEL a_MITER) u0 u2 (pk (u3 &&& (3 : Int32)) a_STROKE a_FILL_AND_STROKE a_FILL) fv6 (pk ((u3 >>> ((2 : Int32) &&& 31)) &&& (3 : Int32)) a_Cap_ROUND a_SQUARE a_BUTT) a_MITER a_DEFAULT (1094713344 : UInt32) a_LEFT T14.heap n0 Z14 g_b9 A14 F14_flags F14_color F14_style F14_strokeWidth F14_strokeCap F14_strokeJoin F14_typeface F14_textSize F14_textAlign (pk_exa _ (E_a_Join_ROUND.ext O14.2) (E_a_BEVEL.ext O14.2) (E_a_MITER.ext O14.2))) hZ (hw _ (List.mem_of_getElem? (i := 105) rfl)) (hw _ (List.mem_of_getElem? (i := 28) rfl)) (by decide) (by decide) (hEL hw) C14.1) q15a q15c (g := (mkF m 96 #[.val (.int u0), .val (.int u1), .val (.int u2), .val (.int u3), .val (.int u4), .val (.int u5), .val (.ref (pk (u3 &&& (3 : Int32)) a_STROKE a_FILL_AND_STROKE a_FILL)), .val (.ref (pk ((u3 >>> ((2 : Int32) &&& 31)) &&& (3 : Int32)) a_Cap_ROUND a_SQUARE a_BUTT)), .val (.ref (pk ((u3 >>> ((4 : Int32) &&& 31)) &&& (3 : Int32)) a_Join_ROUND a_BEVEL a_MITER)), .val (.ref (pk ((u3 >>> ((6 : Int32) &&& 31)) &&& (3 : Int32)) a_CENTER a_RIGHT a_LEFT)), .val (.float fv6), .val (.float fv8), .val (.ref b9), .unset] [(.ref (pk ((u3 >>> ((4 : Int32) &&& 31)) &&& (3 : Int32)) a_Join_ROUND a_BEVEL a_MITER)), (.ref b9)])) rfl (by rw [hml]; rfl) (Steps.refl _) (argsL := [(.ref (pk ((u3 >>> ((4 : Int32) &&& 31)) &&& (3 : Int32)) a_Join_ROUND a_BEVEL a_MITER))]) (rest := []) (lenOf pd_16 rfl) rfl (by show 2 * 0 + _ ≤ _; exact Nat.le_of_eq rfl) (hb hby at_96) (fun _ _ => ⟨rfl, rfl, (by decide : 5 + 2 ≤ _), (by decide : 49 + 20 ≤ _)⟩)
  dsimp only [Pt.U, Pt.locs, Pt.cells, Pt.slots] at X15 l15 y15 z15 st15 hQ15 hS15 gr15 Cq15
  replace y15 : k15 = 7 := y15
  replace z15 : n15 = 69 := z15
  rw [y15, z15] at X15
  obtain ⟨X15, hS15, hZ, hown⟩ := rebS hS14 (Nat.le_trans hk14 (Nat.le_of_eq (congrArg Array.size rfl).symm)) X15 hS15 gr15 hZ hown
  have hk15 := Nat.le_refl T15.heap.size
  obtain ⟨rfl, N15q, K15, A15, F15_flags, F15_color, F15_style, F15_strokeWidth, F15_strokeCap, F15_strokeJoin, F15_typeface, F15_textSize, F15_textAlign⟩ := hQ15
  have N15 : Fr n0 L15 := l15 ▸ Fr.app N14 N15q
  have Z15 : n0 ≤ T15.heap.size := Nat.le_trans Z14 K15.1
  have KK15 := KK14.trans K15 (allS (P := fun x => x ∈ [] ∨ h0.size ≤ x) (Or.inr sz_b9) all0)
  have O15 := O14.keep K15 (allS g_b9 all0)
  have C15 := C14.trans Cq15
  obtain ⟨cq16, kq16, q16a, q16b, q16c⟩ := isOf hZ rfl A15
  obtain ⟨_, _, ⟨T16, L16, k16, n16⟩, -, X16, ⟨Lc16, hQ16, l16, y16, z16⟩, st16⟩ := X15.virtualBack hx (y := (⟨"com/example/decorum/decorum/graphics/Paint", "setTextSize", "(F)V"⟩ : MethodName)) (z := (⟨"com/example/decorum/decorum/graphics/Paint", "setTextSize", "(F)V"⟩ : MethodName)) hown (mvT hZ (hw _ (List.mem_of_getElem? (i := 109) rfl))) (mvT hZ (hw _ (List.mem_of_getElem? (i := 110) rfl))) (notFace_of_selects (args := #[]) (mvT hZ (hw _ (List.mem_of_getElem? (i := 112) rfl)))) (mvT hZ (hw _ (List.mem_of_getElem? (i := 112) rfl))) (mvT hZ (hw _ (List.mem_of_getElem? (i := 111) rfl))) (by decide) (backOf (W := 0) (rm13 l Z a0 hw [] b9 fv8 u0 u2 (pk (u3 &&& (3 : Int32)) a_STROKE a_FILL_AND_STROKE a_FILL) fv6 (pk ((u3 >>> ((2 : Int32) &&& 31)) &&& (3 : Int32)) a_Cap_ROUND a_SQUARE a_BUTT) (pk ((u3 >>> ((4 : Int32) &&& 31)) &&& (3 : Int32)) a_Join_ROUND a_BEVEL a_MITER) a_DEFAULT (1094713344 : UInt32) a_LEFT T15.heap n0 Z15 g_b9 A15 F15_flags F15_color F15_style F15_strokeWidth F15_strokeCap F15_strokeJoin F15_typeface F15_textSize F15_textAlign (by rw [fe8]; exact own_c0 _) (by rw [fe8]; exact own_c1 _)) hZ (hw _ (List.mem_of_getElem? (i := 113) rfl)) (hw _ (List.mem_of_getElem? (i := 28) rfl)) (by decide) (by decide)) q16a q16c (g := (mkF m 103 #[.val (.int u0), .val (.int u1), .val (.int u2), .val (.int u3), .val (.int u4), .val (.int u5), .val (.ref (pk (u3 &&& (3 : Int32)) a_STROKE a_FILL_AND_STROKE a_FILL)), .val (.ref (pk ((u3 >>> ((2 : Int32) &&& 31)) &&& (3 : Int32)) a_Cap_ROUND a_SQUARE a_BUTT)), .val (.ref (pk ((u3 >>> ((4 : Int32) &&& 31)) &&& (3 : Int32)) a_Join_ROUND a_BEVEL a_MITER)), .val (.ref (pk ((u3 >>> ((6 : Int32) &&& 31)) &&& (3 : Int32)) a_CENTER a_RIGHT a_LEFT)), .val (.float fv6), .val (.float fv8), .val (.ref b9), .unset] [(.float fv8), (.ref b9)])) rfl (by rw [hml]; rfl) (Steps.refl _) (argsL := [(.float fv8)]) (rest := []) (lenOf pd_8 rfl) rfl (by show 2 * 0 + _ ≤ _; exact Nat.le_of_eq rfl) (hb hby at_103) (fun _ _ => ⟨rfl, rfl, (by decide : 7 + 0 ≤ _), (by decide : 69 + 0 ≤ _)⟩)
  dsimp only [Pt.U, Pt.locs, Pt.cells, Pt.slots] at X16 l16 y16 z16 st16 hQ16
  replace y16 : k16 = 7 := y16
  replace z16 : n16 = 69 := z16
  rw [y16, z16] at X16
  obtain ⟨rfl, N16q, K16, A16, F16_flags, F16_color, F16_style, F16_strokeWidth, F16_strokeCap, F16_strokeJoin, F16_typeface, F16_textSize, F16_textAlign⟩ := hQ16
  have N16 : Fr n0 L16 := l16 ▸ Fr.app N15 N16q
  have Z16 : n0 ≤ T16.heap.size := Nat.le_trans Z15 K16.1
  have KK16 := KK15.trans K16 (allS (P := fun x => x ∈ [] ∨ h0.size ≤ x) (Or.inr sz_b9) all0)
  have O16 := O15.keep K16 (allS g_b9 all0)
  have C16 := C15.trans (CHr.keep K16 (sfS (Safe.exa hZ.alike A15 (by decide) (by decide)) sf0) C15.1)
  have hk16 := Nat.le_trans hk15 K16.1
  obtain ⟨cq17, kq17, q17a, q17b, q17c⟩ := isOf hZ rfl A16
  obtain ⟨_, _, ⟨T17, L17, k17, n17⟩, -, X17, hS17, gr17, ⟨Lc17, hQ17, l17, y17, z17, Cq17⟩, st17⟩ := X16.virtualBackS hx (y := (⟨"com/example/decorum/decorum/graphics/Paint", "setTextAlign", "(Lcom/example/decorum/decorum/graphics/Paint$Align;)V"⟩ : MethodName)) (z := (⟨"com/example/decorum/decorum/graphics/Paint", "setTextAlign", "(Lcom/example/decorum/decorum/graphics/Paint$Align;)V"⟩ : MethodName)) hown (mvT hZ (hw _ (List.mem_of_getElem? (i := 114) rfl))) (mvT hZ (hw _ (List.mem_of_getElem? (i := 115) rfl))) (notFace_of_selects (args := #[]) (mvT hZ (hw _ (List.mem_of_getElem? (i := 117) rfl)))) (mvT hZ (hw _ (List.mem_of_getElem? (i := 117) rfl))) (mvT hZ (hw _ (List.mem_of_getElem? (i := 116) rfl))) (by decide) (backOfSH (W := 0) (rm14 l Z a0 hw [] b9 (pk ((u3 >>> ((6 : Int32) &&& 31)) &&& (3 : Int32)) a_CENTER a_RIGHT a_LEFT) u0 u2 (pk (u3 &&& (3 : Int32)) a_STROKE a_FILL_AND_STROKE a_FILL) fv6 (pk ((u3 >>> ((2 : Int32) &&& 31)) &&& (3 : Int32)) a_Cap_ROUND a_SQUARE a_BUTT) (pk ((u3 >>> ((4 : Int32) &&& 31)) &&& (3 : Int32)) a_Join_ROUND a_BEVEL a_MITER) a_DEFAULT fv8 a_LEFT T16.heap n0 Z16 g_b9 A16 F16_flags F16_color F16_style F16_strokeWidth F16_strokeCap F16_strokeJoin F16_typeface F16_textSize F16_textAlign (pk_exa _ (E_a_CENTER.ext O16.2) (E_a_RIGHT.ext O16.2) (E_a_LEFT.ext O16.2))) hZ (hw _ (List.mem_of_getElem? (i := 118) rfl)) (hw _ (List.mem_of_getElem? (i := 28) rfl)) (by decide) (by decide) (hEL hw) C16.1) q17a q17c (g := (mkF m 110 #[.val (.int u0), .val (.int u1), .val (.int u2), .val (.int u3), .val (.int u4), .val (.int u5), .val (.ref (pk (u3 &&& (3 : Int32)) a_STROKE a_FILL_AND_STROKE a_FILL)), .val (.ref (pk ((u3 >>> ((2 : Int32) &&& 31)) &&& (3 : Int32)) a_Cap_ROUND a_SQUARE a_BUTT)), .val (.ref (pk ((u3 >>> ((4 : Int32) &&& 31)) &&& (3 : Int32)) a_Join_ROUND a_BEVEL a_MITER)), .val (.ref (pk ((u3 >>> ((6 : Int32) &&& 31)) &&& (3 : Int32)) a_CENTER a_RIGHT a_LEFT)), .val (.float fv6), .val (.float fv8), .val (.ref b9), .unset] [(.ref (pk ((u3 >>> ((6 : Int32) &&& 31)) &&& (3 : Int32)) a_CENTER a_RIGHT a_LEFT)), (.ref b9)])) rfl (by rw [hml]; rfl) (Steps.refl _) (argsL := [(.ref (pk ((u3 >>> ((6 : Int32) &&& 31)) &&& (3 : Int32)) a_CENTER a_RIGHT a_LEFT))]) (rest := []) (lenOf pd_14 rfl) rfl (by show 2 * 0 + _ ≤ _; exact Nat.le_of_eq rfl) (hb hby at_110) (fun _ _ => ⟨rfl, rfl, (by decide : 7 + 2 ≤ _), (by decide : 69 + 24 ≤ _)⟩)
  dsimp only [Pt.U, Pt.locs, Pt.cells, Pt.slots] at X17 l17 y17 z17 st17 hQ17 hS17 gr17 Cq17
  replace y17 : k17 = 9 := y17
  replace z17 : n17 = 93 := z17
  rw [y17, z17] at X17
  obtain ⟨X17, hS17, hZ, hown⟩ := rebS hS15 (Nat.le_trans hk16 (Nat.le_of_eq (congrArg Array.size rfl).symm)) X17 hS17 gr17 hZ hown
  have hk17 := Nat.le_refl T17.heap.size
  obtain ⟨rfl, N17q, K17, A17, F17_flags, F17_color, F17_style, F17_strokeWidth, F17_strokeCap, F17_strokeJoin, F17_typeface, F17_textSize, F17_textAlign⟩ := hQ17
  have N17 : Fr n0 L17 := l17 ▸ Fr.app N16 N17q
  have Z17 : n0 ≤ T17.heap.size := Nat.le_trans Z16 K17.1
  have KK17 := KK16.trans K17 (allS (P := fun x => x ∈ [] ∨ h0.size ≤ x) (Or.inr sz_b9) all0)
  have O17 := O16.keep K17 (allS g_b9 all0)
  have C17 := C16.trans Cq17
  obtain ⟨T18, h18, X18, e18, E18, A18, D18, -, st18⟩ := newO X17 hx hZ hown (hw _ (List.mem_of_getElem? (i := 26) rfl)) (hw _ (List.mem_of_getElem? (i := 27) rfl)) (hw _ (List.mem_of_getElem? (i := 28) rfl)) rfl (g := (mkF m 113 #[.val (.int u0), .val (.int u1), .val (.int u2), .val (.int u3), .val (.int u4), .val (.int u5), .val (.ref (pk (u3 &&& (3 : Int32)) a_STROKE a_FILL_AND_STROKE a_FILL)), .val (.ref (pk ((u3 >>> ((2 : Int32) &&& 31)) &&& (3 : Int32)) a_Cap_ROUND a_SQUARE a_BUTT)), .val (.ref (pk ((u3 >>> ((4 : Int32) &&& 31)) &&& (3 : Int32)) a_Join_ROUND a_BEVEL a_MITER)), .val (.ref (pk ((u3 >>> ((6 : Int32) &&& 31)) &&& (3 : Int32)) a_CENTER a_RIGHT a_LEFT)), .val (.float fv6), .val (.float fv8), .val (.ref b9), .unset] [])) rfl (hb hby at_113) (by decide) (by decide)
  obtain ⟨b18, g18⟩ : ∃ z, z = T17.heap.size := ⟨_, rfl⟩
  rw [← g18] at A18 D18 st18
  have g_b18 : n0 ≤ b18 := Nat.le_trans Z17 (Nat.le_of_eq g18.symm)
  have sz_b18 : h0.size ≤ b18 := Nat.le_trans KK17.1 (Nat.le_of_eq g18.symm)
  have Z18 : n0 ≤ h18.size := Nat.le_trans Z17 E18.1
  have KK18 := KK17.ext E18
  have O18 := O17.ext E18
  have C18 := C17.trans (CHr.ext E18 C17.1)
  have hk18 := Nat.le_trans hk17 E18.1
  have F18_flags : Fld Z h18 b18 "com/example/decorum/decorum/graphics/Paint" "flags" "I" (.int (0 : Int32)) := D18 (Or.inl (hw _ (List.mem_of_getElem? (i := 36) rfl))) (ty := .int) (by decide)
  have F18_color : Fld Z h18 b18 "com/example/decorum/decorum/graphics/Paint" "color" "I" (.int (0 : Int32)) := D18 (Or.inl (hw _ (List.mem_of_getElem? (i := 39) rfl))) (ty := .int) (by decide)
  have F18_style : Fld Z h18 b18 "com/example/decorum/decorum/graphics/Paint" "style" "Lcom/example/decorum/decorum/graphics/Paint$Style;" .null := D18 (Or.inl (hw _ (List.mem_of_getElem? (i := 43) rfl))) (ty := (.object "com/example/decorum/decorum/graphics/Paint$Style")) (by decide)
  have F18_strokeCap : Fld Z h18 b18 "com/example/decorum/decorum/graphics/Paint" "strokeCap" "Lcom/example/decorum/decorum/graphics/Paint$Cap;" .null := D18 (Or.inl (hw _ (List.mem_of_getElem? (i := 46) rfl))) (ty := (.object "com/example/decorum/decorum/graphics/Paint$Cap")) (by decide)
  have F18_strokeJoin : Fld Z h18 b18 "com/example/decorum/decorum/graphics/Paint" "strokeJoin" "Lcom/example/decorum/decorum/graphics/Paint$Join;" .null := D18 (Or.inl (hw _ (List.mem_of_getElem? (i := 49) rfl))) (ty := (.object "com/example/decorum/decorum/graphics/Paint$Join")) (by decide)
  have F18_typeface : Fld Z h18 b18 "com/example/decorum/decorum/graphics/Paint" "typeface" "Lcom/example/decorum/decorum/graphics/Typeface;" .null := D18 (Or.inl (hw _ (List.mem_of_getElem? (i := 54) rfl))) (ty := (.object "com/example/decorum/decorum/graphics/Typeface")) (by decide)
  have F18_textSize : Fld Z h18 b18 "com/example/decorum/decorum/graphics/Paint" "textSize" "F" (.float (0 : UInt32)) := D18 (Or.inl (hw _ (List.mem_of_getElem? (i := 57) rfl))) (ty := .float) (by decide)
  have F18_textAlign : Fld Z h18 b18 "com/example/decorum/decorum/graphics/Paint" "textAlign" "Lcom/example/decorum/decorum/graphics/Paint$Align;" .null := D18 (Or.inl (hw _ (List.mem_of_getElem? (i := 60) rfl))) (ty := (.object "com/example/decorum/decorum/graphics/Paint$Align")) (by decide)
  have F18_strokeWidth : Fld Z h18 b18 "com/example/decorum/decorum/graphics/Paint" "strokeWidth" "F" (.float (0 : UInt32)) := D18 (Or.inl (hw _ (List.mem_of_getElem? (i := 92) rfl))) (ty := .float) (by decide)
  obtain ⟨_, _, ⟨T19, L19, k19, n19⟩, -, X19, ⟨Lc19, hQ19, l19, y19, z19⟩, st19⟩ := X18.specialBack hx (y := (⟨"com/example/decorum/decorum/graphics/Paint", "<init>", "(I)V"⟩ : MethodName)) rfl hown (mvT hZ (hw _ (List.mem_of_getElem? (i := 29) rfl))) (mvT hZ (hw _ (List.mem_of_getElem? (i := 30) rfl))) (mvT hZ (hw _ (List.mem_of_getElem? (i := 31) rfl))) (by decide) (backOf (W := 1) (rm5 l Z a0 hw [] b18 u1 a_FILL a_BUTT a_MITER a_DEFAULT a_LEFT h18 n0 Z18 O18 g_b18 A18 F18_flags F18_color F18_style F18_strokeWidth F18_strokeCap F18_strokeJoin F18_typeface F18_textSize F18_textAlign S_FILL S_BUTT S_MITER S_DEFAULT S_LEFT) hZ (hw _ (List.mem_of_getElem? (i := 31) rfl)) (hw _ (List.mem_of_getElem? (i := 28) rfl)) (by decide) (by decide)) (g := (mkF m 118 #[.val (.int u0), .val (.int u1), .val (.int u2), .val (.int u3), .val (.int u4), .val (.int u5), .val (.ref (pk (u3 &&& (3 : Int32)) a_STROKE a_FILL_AND_STROKE a_FILL)), .val (.ref (pk ((u3 >>> ((2 : Int32) &&& 31)) &&& (3 : Int32)) a_Cap_ROUND a_SQUARE a_BUTT)), .val (.ref (pk ((u3 >>> ((4 : Int32) &&& 31)) &&& (3 : Int32)) a_Join_ROUND a_BEVEL a_MITER)), .val (.ref (pk ((u3 >>> ((6 : Int32) &&& 31)) &&& (3 : Int32)) a_CENTER a_RIGHT a_LEFT)), .val (.float fv6), .val (.float fv8), .val (.ref b9), .unset] [(.int u1), (.ref b18), (.ref b18)])) rfl (by rw [hml]; rfl) (Steps.refl _) (a := b18) (argsL := [(.int u1)]) (rest := [(.ref b18)]) (lenOf pd_13 rfl) rfl (by show 2 * 0 + _ ≤ _; exact Nat.le_of_eq rfl) (hb hby at_118) (fun _ _ => ⟨rfl, e18, (by decide : 10 + 0 ≤ _), (by decide : 102 + 0 ≤ _)⟩)
  dsimp only [Pt.U, Pt.locs, Pt.cells, Pt.slots] at X19 l19 y19 z19 st19 hQ19
  replace y19 : k19 = 10 := y19
  replace z19 : n19 = 102 := z19
  rw [y19, z19] at X19
  obtain ⟨rfl, N19q, K19, A19, F19_flags, F19_color, F19_style, F19_strokeWidth, F19_strokeCap, F19_strokeJoin, F19_typeface, F19_textSize, F19_textAlign⟩ := hQ19
  have N19 : Fr n0 L19 := l19 ▸ Fr.app N17 N19q
  have Z19 : n0 ≤ T19.heap.size := Nat.le_trans Z18 K19.1
  have KK19 := KK18.trans K19 (allS (P := fun x => x ∈ [] ∨ h0.size ≤ x) (Or.inr sz_b18) all0)
  have O19 := O18.keep K19 (allS g_b18 all0)
  have C19 := C18.trans (CHr.keep K19 (sfS (Safe.exa hZ.alike A18 (by decide) (by decide)) sf0) C18.1)
  have hk19 := Nat.le_trans hk18 K19.1
  obtain ⟨cq20, kq20, q20a, q20b, q20c⟩ := isOf hZ rfl A19
  obtain ⟨_, _, ⟨T20, L20, k20, n20⟩, -, X20, ⟨Lc20, hQ20, l20, y20, z20⟩, st20⟩ := X19.virtualBack hx (y := (⟨"com/example/decorum/decorum/graphics/Paint", "set", "(Lcom/example/decorum/decorum/graphics/Paint;)V"⟩ : MethodName)) (z := (⟨"com/example/decorum/decorum/graphics/Paint", "set", "(Lcom/example/decorum/decorum/graphics/Paint;)V"⟩ : MethodName)) hown (mvT hZ (hw _ (List.mem_of_getElem? (i := 122) rfl))) (mvT hZ (hw _ (List.mem_of_getElem? (i := 123) rfl))) (notFace_of_selects (args := #[]) (mvT hZ (hw _ (List.mem_of_getElem? (i := 125) rfl)))) (mvT hZ (hw _ (List.mem_of_getElem? (i := 125) rfl))) (mvT hZ (hw _ (List.mem_of_getElem? (i := 124) rfl))) (by decide) (backOf (W := 0) (rm15 l Z a0 hw [] b18 b9 u0 u2 (pk (u3 &&& (3 : Int32)) a_STROKE a_FILL_AND_STROKE a_FILL) fv6 (pk ((u3 >>> ((2 : Int32) &&& 31)) &&& (3 : Int32)) a_Cap_ROUND a_SQUARE a_BUTT) (pk ((u3 >>> ((4 : Int32) &&& 31)) &&& (3 : Int32)) a_Join_ROUND a_BEVEL a_MITER) a_DEFAULT fv8 (pk ((u3 >>> ((6 : Int32) &&& 31)) &&& (3 : Int32)) a_CENTER a_RIGHT a_LEFT) u1 (-16777216 : Int32) a_FILL (0 : UInt32) a_BUTT a_MITER a_DEFAULT (1094713344 : UInt32) a_LEFT T19.heap n0 Z19 g_b18 A19 F19_flags F19_color F19_style F19_strokeWidth F19_strokeCap F19_strokeJoin F19_typeface F19_textSize F19_textAlign ((A17.ext E18).keep K19) ((F17_flags.ext E18).keep K19 (ninS (Nat.ne_of_lt (Nat.lt_of_lt_of_le A17.lt (Nat.le_of_eq g18.symm))) nin0)) ((F17_color.ext E18).keep K19 (ninS (Nat.ne_of_lt (Nat.lt_of_lt_of_le A17.lt (Nat.le_of_eq g18.symm))) nin0)) ((F17_style.ext E18).keep K19 (ninS (Nat.ne_of_lt (Nat.lt_of_lt_of_le A17.lt (Nat.le_of_eq g18.symm))) nin0)) ((F17_strokeWidth.ext E18).keep K19 (ninS (Nat.ne_of_lt (Nat.lt_of_lt_of_le A17.lt (Nat.le_of_eq g18.symm))) nin0)) ((F17_strokeCap.ext E18).keep K19 (ninS (Nat.ne_of_lt (Nat.lt_of_lt_of_le A17.lt (Nat.le_of_eq g18.symm))) nin0)) ((F17_strokeJoin.ext E18).keep K19 (ninS (Nat.ne_of_lt (Nat.lt_of_lt_of_le A17.lt (Nat.le_of_eq g18.symm))) nin0)) ((F17_typeface.ext E18).keep K19 (ninS (Nat.ne_of_lt (Nat.lt_of_lt_of_le A17.lt (Nat.le_of_eq g18.symm))) nin0)) ((F17_textSize.ext E18).keep K19 (ninS (Nat.ne_of_lt (Nat.lt_of_lt_of_le A17.lt (Nat.le_of_eq g18.symm))) nin0)) ((F17_textAlign.ext E18).keep K19 (ninS (Nat.ne_of_lt (Nat.lt_of_lt_of_le A17.lt (Nat.le_of_eq g18.symm))) nin0)) (Nat.ne_of_lt (Nat.lt_of_lt_of_le A17.lt (Nat.le_of_eq g18.symm)))) hZ (hw _ (List.mem_of_getElem? (i := 126) rfl)) (hw _ (List.mem_of_getElem? (i := 28) rfl)) (by decide) (by decide)) q20a q20c (g := (mkF m 127 #[.val (.int u0), .val (.int u1), .val (.int u2), .val (.int u3), .val (.int u4), .val (.int u5), .val (.ref (pk (u3 &&& (3 : Int32)) a_STROKE a_FILL_AND_STROKE a_FILL)), .val (.ref (pk ((u3 >>> ((2 : Int32) &&& 31)) &&& (3 : Int32)) a_Cap_ROUND a_SQUARE a_BUTT)), .val (.ref (pk ((u3 >>> ((4 : Int32) &&& 31)) &&& (3 : Int32)) a_Join_ROUND a_BEVEL a_MITER)), .val (.ref (pk ((u3 >>> ((6 : Int32) &&& 31)) &&& (3 : Int32)) a_CENTER a_RIGHT a_LEFT)), .val (.float fv6), .val (.float fv8), .val (.ref b9), .val (.ref b18)] [(.ref b9), (.ref b18)])) rfl (by rw [hml]; rfl) (Steps.refl _) (argsL := [(.ref b9)]) (rest := []) (lenOf pd_18 rfl) rfl (by show 2 * 0 + _ ≤ _; exact Nat.le_of_eq rfl) (hb hby at_127) (fun _ _ => ⟨rfl, rfl, (by decide : 10 + 0 ≤ _), (by decide : 102 + 0 ≤ _)⟩)
  dsimp only [Pt.U, Pt.locs, Pt.cells, Pt.slots] at X20 l20 y20 z20 st20 hQ20
  replace y20 : k20 = 10 := y20
  replace z20 : n20 = 102 := z20
  rw [y20, z20] at X20
  obtain ⟨rfl, N20q, K20, A20, F20_flags, F20_color, F20_style, F20_strokeWidth, F20_strokeCap, F20_strokeJoin, F20_typeface, F20_textSize, F20_textAlign⟩ := hQ20
  have N20 : Fr n0 L20 := l20 ▸ Fr.app N19 N20q
  have Z20 : n0 ≤ T20.heap.size := Nat.le_trans Z19 K20.1
  have KK20 := KK19.trans K20 (allS (P := fun x => x ∈ [] ∨ h0.size ≤ x) (Or.inr sz_b18) all0)
  have O20 := O19.keep K20 (allS g_b18 all0)
  have C20 := C19.trans (CHr.keep K20 (sfS (Safe.exa hZ.alike A19 (by decide) (by decide)) sf0) C19.1)
  have hk20 := Nat.le_trans hk19 K20.1
  obtain ⟨cq21, kq21, q21a, q21b, q21c⟩ := isOf hZ rfl A20
  obtain ⟨_, _, ⟨T21, L21, k21, n21⟩, -, X21, ⟨Lc21, hQ21, l21, y21, z21⟩, st21⟩ := X20.virtualBack hx (y := (⟨"com/example/decorum/decorum/graphics/Paint", "getFlags", "()I"⟩ : MethodName)) (z := (⟨"com/example/decorum/decorum/graphics/Paint", "getFlags", "()I"⟩ : MethodName)) hown (mvT hZ (hw _ (List.mem_of_getElem? (i := 127) rfl))) (mvT hZ (hw _ (List.mem_of_getElem? (i := 128) rfl))) (notFace_of_selects (args := #[]) (mvT hZ (hw _ (List.mem_of_getElem? (i := 130) rfl)))) (mvT hZ (hw _ (List.mem_of_getElem? (i := 130) rfl))) (mvT hZ (hw _ (List.mem_of_getElem? (i := 129) rfl))) (by decide) (backOf (W := 0) (rm16 l Z a0 hw [] b18 u0 T20.heap n0 Z20 F20_flags) hZ (hw _ (List.mem_of_getElem? (i := 131) rfl)) (hw _ (List.mem_of_getElem? (i := 28) rfl)) (by decide) (by decide)) q21a q21c (g := (mkF m 132 #[.val (.int u0), .val (.int u1), .val (.int u2), .val (.int u3), .val (.int u4), .val (.int u5), .val (.ref (pk (u3 &&& (3 : Int32)) a_STROKE a_FILL_AND_STROKE a_FILL)), .val (.ref (pk ((u3 >>> ((2 : Int32) &&& 31)) &&& (3 : Int32)) a_Cap_ROUND a_SQUARE a_BUTT)), .val (.ref (pk ((u3 >>> ((4 : Int32) &&& 31)) &&& (3 : Int32)) a_Join_ROUND a_BEVEL a_MITER)), .val (.ref (pk ((u3 >>> ((6 : Int32) &&& 31)) &&& (3 : Int32)) a_CENTER a_RIGHT a_LEFT)), .val (.float fv6), .val (.float fv8), .val (.ref b9), .val (.ref b18)] [(.ref b18)])) rfl (by rw [hml]; rfl) (Steps.refl _) (argsL := []) (rest := []) (lenOf pd_1 rfl) rfl (by show 2 * 0 + _ ≤ _; exact Nat.le_of_eq rfl) (hb hby at_132) (fun _ _ => ⟨rfl, rfl, (by decide : 10 + 0 ≤ _), (by decide : 102 + 0 ≤ _)⟩)
  dsimp only [Pt.U, Pt.locs, Pt.cells, Pt.slots] at X21 l21 y21 z21 st21 hQ21
  replace y21 : k21 = 10 := y21
  replace z21 : n21 = 102 := z21
  rw [y21, z21] at X21
  obtain ⟨rfl, N21q, e21⟩ := hQ21
  have N21 : Fr n0 L21 := l21 ▸ Fr.app N20 N21q
  obtain ⟨cq22, kq22, q22a, q22b, q22c⟩ := isOf hZ e21 A20
  obtain ⟨_, _, ⟨T22, L22, k22, n22⟩, -, X22, ⟨Lc22, hQ22, l22, y22, z22⟩, st22⟩ := X21.virtualBack hx (y := (⟨"com/example/decorum/decorum/graphics/Paint", "getColor", "()I"⟩ : MethodName)) (z := (⟨"com/example/decorum/decorum/graphics/Paint", "getColor", "()I"⟩ : MethodName)) hown (mvT hZ (hw _ (List.mem_of_getElem? (i := 132) rfl))) (mvT hZ (hw _ (List.mem_of_getElem? (i := 133) rfl))) (notFace_of_selects (args := #[]) (mvT hZ (hw _ (List.mem_of_getElem? (i := 135) rfl)))) (mvT hZ (hw _ (List.mem_of_getElem? (i := 135) rfl))) (mvT hZ (hw _ (List.mem_of_getElem? (i := 134) rfl))) (by decide) (backOf (W := 0) (rm17 l Z a0 hw [] b18 u2 T20.heap n0 Z20 F20_color) hZ (hw _ (List.mem_of_getElem? (i := 136) rfl)) (hw _ (List.mem_of_getElem? (i := 28) rfl)) (by decide) (by decide)) q22a q22c (g := (mkF m 141 #[.val (.int u0), .val (.int u1), .val (.int u2), .val (.int u3), .val (.int u4), .val (.int u5), .val (.ref (pk (u3 &&& (3 : Int32)) a_STROKE a_FILL_AND_STROKE a_FILL)), .val (.ref (pk ((u3 >>> ((2 : Int32) &&& 31)) &&& (3 : Int32)) a_Cap_ROUND a_SQUARE a_BUTT)), .val (.ref (pk ((u3 >>> ((4 : Int32) &&& 31)) &&& (3 : Int32)) a_Join_ROUND a_BEVEL a_MITER)), .val (.ref (pk ((u3 >>> ((6 : Int32) &&& 31)) &&& (3 : Int32)) a_CENTER a_RIGHT a_LEFT)), .val (.float fv6), .val (.float fv8), .val (.ref b9), .val (.ref b18)] [(.ref b18)])) rfl (by rw [hml]; rfl) (Steps.refl _) (argsL := []) (rest := []) (lenOf pd_1 rfl) rfl (by show 2 * 0 + _ ≤ _; exact Nat.le_of_eq rfl) (hb hby at_141) (fun _ _ => ⟨rfl, e21, (by decide : 10 + 0 ≤ _), (by decide : 102 + 0 ≤ _)⟩)
  dsimp only [Pt.U, Pt.locs, Pt.cells, Pt.slots] at X22 l22 y22 z22 st22 hQ22
  replace y22 : k22 = 10 := y22
  replace z22 : n22 = 102 := z22
  rw [y22, z22] at X22
  obtain ⟨rfl, N22q, e22⟩ := hQ22
  have N22 : Fr n0 L22 := l22 ▸ Fr.app N21 N22q
  obtain ⟨cq23, kq23, q23a, q23b, q23c⟩ := isOf hZ e22 A20
  obtain ⟨_, _, ⟨T23, L23, k23, n23⟩, -, X23, ⟨Lc23, hQ23, l23, y23, z23⟩, st23⟩ := X22.virtualBack hx (y := (⟨"com/example/decorum/decorum/graphics/Paint", "getStyle", "()Lcom/example/decorum/decorum/graphics/Paint$Style;"⟩ : MethodName)) (z := (⟨"com/example/decorum/decorum/graphics/Paint", "getStyle", "()Lcom/example/decorum/decorum/graphics/Paint$Style;"⟩ : MethodName)) hown (mvT hZ (hw _ (List.mem_of_getElem? (i := 137) rfl))) (mvT hZ (hw _ (List.mem_of_getElem? (i := 138) rfl))) (notFace_of_selects (args := #[]) (mvT hZ (hw _ (List.mem_of_getElem? (i := 140) rfl)))) (mvT hZ (hw _ (List.mem_of_getElem? (i := 140) rfl))) (mvT hZ (hw _ (List.mem_of_getElem? (i := 139) rfl))) (by decide) (backOf (W := 0) (rm18 l Z a0 hw [] b18 (pk (u3 &&& (3 : Int32)) a_STROKE a_FILL_AND_STROKE a_FILL) T20.heap n0 Z20 F20_style) hZ (hw _ (List.mem_of_getElem? (i := 141) rfl)) (hw _ (List.mem_of_getElem? (i := 28) rfl)) (by decide) (by decide)) q23a q23c (g := (mkF m 150 #[.val (.int u0), .val (.int u1), .val (.int u2), .val (.int u3), .val (.int u4), .val (.int u5), .val (.ref (pk (u3 &&& (3 : Int32)) a_STROKE a_FILL_AND_STROKE a_FILL)), .val (.ref (pk ((u3 >>> ((2 : Int32) &&& 31)) &&& (3 : Int32)) a_Cap_ROUND a_SQUARE a_BUTT)), .val (.ref (pk ((u3 >>> ((4 : Int32) &&& 31)) &&& (3 : Int32)) a_Join_ROUND a_BEVEL a_MITER)), .val (.ref (pk ((u3 >>> ((6 : Int32) &&& 31)) &&& (3 : Int32)) a_CENTER a_RIGHT a_LEFT)), .val (.float fv6), .val (.float fv8), .val (.ref b9), .val (.ref b18)] [(.ref b18)])) rfl (by rw [hml]; rfl) (Steps.refl _) (argsL := []) (rest := []) (lenOf pd_5 rfl) rfl (by show 2 * 0 + _ ≤ _; exact Nat.le_of_eq rfl) (hb hby at_150) (fun _ _ => ⟨rfl, e22, (by decide : 10 + 0 ≤ _), (by decide : 102 + 0 ≤ _)⟩)
  dsimp only [Pt.U, Pt.locs, Pt.cells, Pt.slots] at X23 l23 y23 z23 st23 hQ23
  replace y23 : k23 = 10 := y23
  replace z23 : n23 = 102 := z23
  rw [y23, z23] at X23
  obtain ⟨rfl, N23q, e23⟩ := hQ23
  have N23 : Fr n0 L23 := l23 ▸ Fr.app N22 N23q
  obtain ⟨cq24, kq24, q24a, q24b, q24c⟩ := isOf hZ e23 A20
  obtain ⟨_, _, ⟨T24, L24, k24, n24⟩, -, X24, ⟨Lc24, hQ24, l24, y24, z24⟩, st24⟩ := X23.virtualBack hx (y := (⟨"com/example/decorum/decorum/graphics/Paint", "getStrokeWidth", "()F"⟩ : MethodName)) (z := (⟨"com/example/decorum/decorum/graphics/Paint", "getStrokeWidth", "()F"⟩ : MethodName)) hown (mvT hZ (hw _ (List.mem_of_getElem? (i := 142) rfl))) (mvT hZ (hw _ (List.mem_of_getElem? (i := 143) rfl))) (notFace_of_selects (args := #[]) (mvT hZ (hw _ (List.mem_of_getElem? (i := 145) rfl)))) (mvT hZ (hw _ (List.mem_of_getElem? (i := 145) rfl))) (mvT hZ (hw _ (List.mem_of_getElem? (i := 144) rfl))) (by decide) (backOf (W := 0) (rm19 l Z a0 hw [] b18 fv6 T20.heap n0 Z20 F20_strokeWidth) hZ (hw _ (List.mem_of_getElem? (i := 146) rfl)) (hw _ (List.mem_of_getElem? (i := 28) rfl)) (by decide) (by decide)) q24a q24c (g := (mkF m 160 #[.val (.int u0), .val (.int u1), .val (.int u2), .val (.int u3), .val (.int u4), .val (.int u5), .val (.ref (pk (u3 &&& (3 : Int32)) a_STROKE a_FILL_AND_STROKE a_FILL)), .val (.ref (pk ((u3 >>> ((2 : Int32) &&& 31)) &&& (3 : Int32)) a_Cap_ROUND a_SQUARE a_BUTT)), .val (.ref (pk ((u3 >>> ((4 : Int32) &&& 31)) &&& (3 : Int32)) a_Join_ROUND a_BEVEL a_MITER)), .val (.ref (pk ((u3 >>> ((6 : Int32) &&& 31)) &&& (3 : Int32)) a_CENTER a_RIGHT a_LEFT)), .val (.float fv6), .val (.float fv8), .val (.ref b9), .val (.ref b18)] [(.ref b18)])) rfl (by rw [hml]; rfl) (Steps.refl _) (argsL := []) (rest := []) (lenOf pd_0 rfl) rfl (by show 2 * 0 + _ ≤ _; exact Nat.le_of_eq rfl) (hb hby at_160) (fun _ _ => ⟨rfl, e23, (by decide : 10 + 0 ≤ _), (by decide : 102 + 0 ≤ _)⟩)
  dsimp only [Pt.U, Pt.locs, Pt.cells, Pt.slots] at X24 l24 y24 z24 st24 hQ24
  replace y24 : k24 = 10 := y24
  replace z24 : n24 = 102 := z24
  rw [y24, z24] at X24
  obtain ⟨rfl, N24q, e24⟩ := hQ24
  have N24 : Fr n0 L24 := l24 ▸ Fr.app N23 N24q
  obtain ⟨cq25, kq25, q25a, q25b, q25c⟩ := isOf hZ e24 A20
  obtain ⟨_, _, ⟨T25, L25, k25, n25⟩, -, X25, ⟨Lc25, hQ25, l25, y25, z25⟩, st25⟩ := X24.virtualBack hx (y := (⟨"com/example/decorum/decorum/graphics/Paint", "getStrokeCap", "()Lcom/example/decorum/decorum/graphics/Paint$Cap;"⟩ : MethodName)) (z := (⟨"com/example/decorum/decorum/graphics/Paint", "getStrokeCap", "()Lcom/example/decorum/decorum/graphics/Paint$Cap;"⟩ : MethodName)) hown (mvT hZ (hw _ (List.mem_of_getElem? (i := 147) rfl))) (mvT hZ (hw _ (List.mem_of_getElem? (i := 148) rfl))) (notFace_of_selects (args := #[]) (mvT hZ (hw _ (List.mem_of_getElem? (i := 150) rfl)))) (mvT hZ (hw _ (List.mem_of_getElem? (i := 150) rfl))) (mvT hZ (hw _ (List.mem_of_getElem? (i := 149) rfl))) (by decide) (backOf (W := 0) (rm20 l Z a0 hw [] b18 (pk ((u3 >>> ((2 : Int32) &&& 31)) &&& (3 : Int32)) a_Cap_ROUND a_SQUARE a_BUTT) T20.heap n0 Z20 F20_strokeCap) hZ (hw _ (List.mem_of_getElem? (i := 151) rfl)) (hw _ (List.mem_of_getElem? (i := 28) rfl)) (by decide) (by decide)) q25a q25c (g := (mkF m 171 #[.val (.int u0), .val (.int u1), .val (.int u2), .val (.int u3), .val (.int u4), .val (.int u5), .val (.ref (pk (u3 &&& (3 : Int32)) a_STROKE a_FILL_AND_STROKE a_FILL)), .val (.ref (pk ((u3 >>> ((2 : Int32) &&& 31)) &&& (3 : Int32)) a_Cap_ROUND a_SQUARE a_BUTT)), .val (.ref (pk ((u3 >>> ((4 : Int32) &&& 31)) &&& (3 : Int32)) a_Join_ROUND a_BEVEL a_MITER)), .val (.ref (pk ((u3 >>> ((6 : Int32) &&& 31)) &&& (3 : Int32)) a_CENTER a_RIGHT a_LEFT)), .val (.float fv6), .val (.float fv8), .val (.ref b9), .val (.ref b18)] [(.ref b18)])) rfl (by rw [hml]; rfl) (Steps.refl _) (argsL := []) (rest := []) (lenOf pd_3 rfl) rfl (by show 2 * 0 + _ ≤ _; exact Nat.le_of_eq rfl) (hb hby at_171) (fun _ _ => ⟨rfl, e24, (by decide : 10 + 0 ≤ _), (by decide : 102 + 0 ≤ _)⟩)
  dsimp only [Pt.U, Pt.locs, Pt.cells, Pt.slots] at X25 l25 y25 z25 st25 hQ25
  replace y25 : k25 = 10 := y25
  replace z25 : n25 = 102 := z25
  rw [y25, z25] at X25
  obtain ⟨rfl, N25q, e25⟩ := hQ25
  have N25 : Fr n0 L25 := l25 ▸ Fr.app N24 N25q
  obtain ⟨cq26, kq26, q26a, q26b, q26c⟩ := isOf hZ e25 A20
  obtain ⟨_, _, ⟨T26, L26, k26, n26⟩, -, X26, ⟨Lc26, hQ26, l26, y26, z26⟩, st26⟩ := X25.virtualBack hx (y := (⟨"com/example/decorum/decorum/graphics/Paint", "getStrokeJoin", "()Lcom/example/decorum/decorum/graphics/Paint$Join;"⟩ : MethodName)) (z := (⟨"com/example/decorum/decorum/graphics/Paint", "getStrokeJoin", "()Lcom/example/decorum/decorum/graphics/Paint$Join;"⟩ : MethodName)) hown (mvT hZ (hw _ (List.mem_of_getElem? (i := 152) rfl))) (mvT hZ (hw _ (List.mem_of_getElem? (i := 153) rfl))) (notFace_of_selects (args := #[]) (mvT hZ (hw _ (List.mem_of_getElem? (i := 155) rfl)))) (mvT hZ (hw _ (List.mem_of_getElem? (i := 155) rfl))) (mvT hZ (hw _ (List.mem_of_getElem? (i := 154) rfl))) (by decide) (backOf (W := 0) (rm21 l Z a0 hw [] b18 (pk ((u3 >>> ((4 : Int32) &&& 31)) &&& (3 : Int32)) a_Join_ROUND a_BEVEL a_MITER) T20.heap n0 Z20 F20_strokeJoin) hZ (hw _ (List.mem_of_getElem? (i := 156) rfl)) (hw _ (List.mem_of_getElem? (i := 28) rfl)) (by decide) (by decide)) q26a q26c (g := (mkF m 181 #[.val (.int u0), .val (.int u1), .val (.int u2), .val (.int u3), .val (.int u4), .val (.int u5), .val (.ref (pk (u3 &&& (3 : Int32)) a_STROKE a_FILL_AND_STROKE a_FILL)), .val (.ref (pk ((u3 >>> ((2 : Int32) &&& 31)) &&& (3 : Int32)) a_Cap_ROUND a_SQUARE a_BUTT)), .val (.ref (pk ((u3 >>> ((4 : Int32) &&& 31)) &&& (3 : Int32)) a_Join_ROUND a_BEVEL a_MITER)), .val (.ref (pk ((u3 >>> ((6 : Int32) &&& 31)) &&& (3 : Int32)) a_CENTER a_RIGHT a_LEFT)), .val (.float fv6), .val (.float fv8), .val (.ref b9), .val (.ref b18)] [(.ref b18)])) rfl (by rw [hml]; rfl) (Steps.refl _) (argsL := []) (rest := []) (lenOf pd_4 rfl) rfl (by show 2 * 0 + _ ≤ _; exact Nat.le_of_eq rfl) (hb hby at_181) (fun _ _ => ⟨rfl, e25, (by decide : 10 + 0 ≤ _), (by decide : 102 + 0 ≤ _)⟩)
  dsimp only [Pt.U, Pt.locs, Pt.cells, Pt.slots] at X26 l26 y26 z26 st26 hQ26
  replace y26 : k26 = 10 := y26
  replace z26 : n26 = 102 := z26
  rw [y26, z26] at X26
  obtain ⟨rfl, N26q, e26⟩ := hQ26
  have N26 : Fr n0 L26 := l26 ▸ Fr.app N25 N26q
  obtain ⟨cq27, kq27, q27a, q27b, q27c⟩ := isOf hZ e26 A20
  obtain ⟨_, _, ⟨T27, L27, k27, n27⟩, -, X27, ⟨Lc27, hQ27, l27, y27, z27⟩, st27⟩ := X26.virtualBack hx (y := (⟨"com/example/decorum/decorum/graphics/Paint", "getTypeface", "()Lcom/example/decorum/decorum/graphics/Typeface;"⟩ : MethodName)) (z := (⟨"com/example/decorum/decorum/graphics/Paint", "getTypeface", "()Lcom/example/decorum/decorum/graphics/Typeface;"⟩ : MethodName)) hown (mvT hZ (hw _ (List.mem_of_getElem? (i := 157) rfl))) (mvT hZ (hw _ (List.mem_of_getElem? (i := 158) rfl))) (notFace_of_selects (args := #[]) (mvT hZ (hw _ (List.mem_of_getElem? (i := 160) rfl)))) (mvT hZ (hw _ (List.mem_of_getElem? (i := 160) rfl))) (mvT hZ (hw _ (List.mem_of_getElem? (i := 159) rfl))) (by decide) (backOf (W := 0) (rm22 l Z a0 hw [] b18 a_DEFAULT T20.heap n0 Z20 F20_typeface) hZ (hw _ (List.mem_of_getElem? (i := 161) rfl)) (hw _ (List.mem_of_getElem? (i := 28) rfl)) (by decide) (by decide)) q27a q27c (g := (mkF m 191 #[.val (.int u0), .val (.int u1), .val (.int u2), .val (.int u3), .val (.int u4), .val (.int u5), .val (.ref (pk (u3 &&& (3 : Int32)) a_STROKE a_FILL_AND_STROKE a_FILL)), .val (.ref (pk ((u3 >>> ((2 : Int32) &&& 31)) &&& (3 : Int32)) a_Cap_ROUND a_SQUARE a_BUTT)), .val (.ref (pk ((u3 >>> ((4 : Int32) &&& 31)) &&& (3 : Int32)) a_Join_ROUND a_BEVEL a_MITER)), .val (.ref (pk ((u3 >>> ((6 : Int32) &&& 31)) &&& (3 : Int32)) a_CENTER a_RIGHT a_LEFT)), .val (.float fv6), .val (.float fv8), .val (.ref b9), .val (.ref b18)] [(.ref b18)])) rfl (by rw [hml]; rfl) (Steps.refl _) (argsL := []) (rest := []) (lenOf pd_6 rfl) rfl (by show 2 * 0 + _ ≤ _; exact Nat.le_of_eq rfl) (hb hby at_191) (fun _ _ => ⟨rfl, e26, (by decide : 10 + 0 ≤ _), (by decide : 102 + 0 ≤ _)⟩)
  dsimp only [Pt.U, Pt.locs, Pt.cells, Pt.slots] at X27 l27 y27 z27 st27 hQ27
  replace y27 : k27 = 10 := y27
  replace z27 : n27 = 102 := z27
  rw [y27, z27] at X27
  obtain ⟨rfl, N27q, e27⟩ := hQ27
  have N27 : Fr n0 L27 := l27 ▸ Fr.app N26 N27q
  obtain ⟨cq28, kq28, q28a, q28b, q28c⟩ := isOf hZ e27 (((A17.ext E18).keep K19).keep K20)
  obtain ⟨_, _, ⟨T28, L28, k28, n28⟩, -, X28, ⟨Lc28, hQ28, l28, y28, z28⟩, st28⟩ := X27.virtualBack hx (y := (⟨"com/example/decorum/decorum/graphics/Paint", "getTypeface", "()Lcom/example/decorum/decorum/graphics/Typeface;"⟩ : MethodName)) (z := (⟨"com/example/decorum/decorum/graphics/Paint", "getTypeface", "()Lcom/example/decorum/decorum/graphics/Typeface;"⟩ : MethodName)) hown (mvT hZ (hw _ (List.mem_of_getElem? (i := 157) rfl))) (mvT hZ (hw _ (List.mem_of_getElem? (i := 158) rfl))) (notFace_of_selects (args := #[]) (mvT hZ (hw _ (List.mem_of_getElem? (i := 160) rfl)))) (mvT hZ (hw _ (List.mem_of_getElem? (i := 160) rfl))) (mvT hZ (hw _ (List.mem_of_getElem? (i := 159) rfl))) (by decide) (backOf (W := 1) (rm22 l Z a0 hw [] b9 a_DEFAULT T20.heap n0 Z20 (((F17_typeface.ext E18).keep K19 (ninS (Nat.ne_of_lt (Nat.lt_of_lt_of_le A17.lt (Nat.le_of_eq g18.symm))) nin0)).keep K20 (ninS (Nat.ne_of_lt (Nat.lt_of_lt_of_le A17.lt (Nat.le_of_eq g18.symm))) nin0))) hZ (hw _ (List.mem_of_getElem? (i := 161) rfl)) (hw _ (List.mem_of_getElem? (i := 28) rfl)) (by decide) (by decide)) q28a q28c (g := (mkF m 196 #[.val (.int u0), .val (.int u1), .val (.int u2), .val (.int u3), .val (.int u4), .val (.int u5), .val (.ref (pk (u3 &&& (3 : Int32)) a_STROKE a_FILL_AND_STROKE a_FILL)), .val (.ref (pk ((u3 >>> ((2 : Int32) &&& 31)) &&& (3 : Int32)) a_Cap_ROUND a_SQUARE a_BUTT)), .val (.ref (pk ((u3 >>> ((4 : Int32) &&& 31)) &&& (3 : Int32)) a_Join_ROUND a_BEVEL a_MITER)), .val (.ref (pk ((u3 >>> ((6 : Int32) &&& 31)) &&& (3 : Int32)) a_CENTER a_RIGHT a_LEFT)), .val (.float fv6), .val (.float fv8), .val (.ref b9), .val (.ref b18)] [(.ref b9), (.ref a_DEFAULT)])) rfl (by rw [hml]; rfl) (Steps.refl _) (argsL := []) (rest := [(.ref a_DEFAULT)]) (lenOf pd_6 rfl) rfl (by show 2 * 0 + _ ≤ _; exact Nat.le_of_eq rfl) (hb hby at_196) (fun _ _ => ⟨rfl, e27, (by decide : 10 + 0 ≤ _), (by decide : 102 + 0 ≤ _)⟩)
  dsimp only [Pt.U, Pt.locs, Pt.cells, Pt.slots] at X28 l28 y28 z28 st28 hQ28
  replace y28 : k28 = 10 := y28
  replace z28 : n28 = 102 := z28
  rw [y28, z28] at X28
  obtain ⟨rfl, N28q, e28⟩ := hQ28
  have N28 : Fr n0 L28 := l28 ▸ Fr.app N27 N28q
  obtain ⟨cq29, kq29, q29a, q29b, q29c⟩ := isOf hZ e28 A20
  obtain ⟨_, _, ⟨T29, L29, k29, n29⟩, -, X29, ⟨Lc29, hQ29, l29, y29, z29⟩, st29⟩ := X28.virtualBack hx (y := (⟨"com/example/decorum/decorum/graphics/Paint", "getTextSize", "()F"⟩ : MethodName)) (z := (⟨"com/example/decorum/decorum/graphics/Paint", "getTextSize", "()F"⟩ : MethodName)) hown (mvT hZ (hw _ (List.mem_of_getElem? (i := 162) rfl))) (mvT hZ (hw _ (List.mem_of_getElem? (i := 163) rfl))) (notFace_of_selects (args := #[]) (mvT hZ (hw _ (List.mem_of_getElem? (i := 165) rfl)))) (mvT hZ (hw _ (List.mem_of_getElem? (i := 165) rfl))) (mvT hZ (hw _ (List.mem_of_getElem? (i := 164) rfl))) (by decide) (backOf (W := 0) (rm23 l Z a0 hw [] b18 fv8 T20.heap n0 Z20 F20_textSize) hZ (hw _ (List.mem_of_getElem? (i := 166) rfl)) (hw _ (List.mem_of_getElem? (i := 28) rfl)) (by decide) (by decide)) q29a q29c (g := (mkF m 204 #[.val (.int u0), .val (.int u1), .val (.int u2), .val (.int u3), .val (.int u4), .val (.int u5), .val (.ref (pk (u3 &&& (3 : Int32)) a_STROKE a_FILL_AND_STROKE a_FILL)), .val (.ref (pk ((u3 >>> ((2 : Int32) &&& 31)) &&& (3 : Int32)) a_Cap_ROUND a_SQUARE a_BUTT)), .val (.ref (pk ((u3 >>> ((4 : Int32) &&& 31)) &&& (3 : Int32)) a_Join_ROUND a_BEVEL a_MITER)), .val (.ref (pk ((u3 >>> ((6 : Int32) &&& 31)) &&& (3 : Int32)) a_CENTER a_RIGHT a_LEFT)), .val (.float fv6), .val (.float fv8), .val (.ref b9), .val (.ref b18)] [(.ref b18)])) rfl (by rw [hml]; rfl) (Steps.refl _) (argsL := []) (rest := []) (lenOf pd_0 rfl) rfl (by show 2 * 0 + _ ≤ _; exact Nat.le_of_eq rfl) (hb hby at_204) (fun _ _ => ⟨rfl, e28, (by decide : 10 + 0 ≤ _), (by decide : 102 + 0 ≤ _)⟩)
  dsimp only [Pt.U, Pt.locs, Pt.cells, Pt.slots] at X29 l29 y29 z29 st29 hQ29
  replace y29 : k29 = 10 := y29
  replace z29 : n29 = 102 := z29
  rw [y29, z29] at X29
  obtain ⟨rfl, N29q, e29⟩ := hQ29
  have N29 : Fr n0 L29 := l29 ▸ Fr.app N28 N29q
  obtain ⟨cq30, kq30, q30a, q30b, q30c⟩ := isOf hZ e29 A20
  obtain ⟨_, _, ⟨T30, L30, k30, n30⟩, -, X30, ⟨Lc30, hQ30, l30, y30, z30⟩, st30⟩ := X29.virtualBack hx (y := (⟨"com/example/decorum/decorum/graphics/Paint", "getTextAlign", "()Lcom/example/decorum/decorum/graphics/Paint$Align;"⟩ : MethodName)) (z := (⟨"com/example/decorum/decorum/graphics/Paint", "getTextAlign", "()Lcom/example/decorum/decorum/graphics/Paint$Align;"⟩ : MethodName)) hown (mvT hZ (hw _ (List.mem_of_getElem? (i := 167) rfl))) (mvT hZ (hw _ (List.mem_of_getElem? (i := 168) rfl))) (notFace_of_selects (args := #[]) (mvT hZ (hw _ (List.mem_of_getElem? (i := 170) rfl)))) (mvT hZ (hw _ (List.mem_of_getElem? (i := 170) rfl))) (mvT hZ (hw _ (List.mem_of_getElem? (i := 169) rfl))) (by decide) (backOf (W := 0) (rm24 l Z a0 hw [] b18 (pk ((u3 >>> ((6 : Int32) &&& 31)) &&& (3 : Int32)) a_CENTER a_RIGHT a_LEFT) T20.heap n0 Z20 F20_textAlign) hZ (hw _ (List.mem_of_getElem? (i := 171) rfl)) (hw _ (List.mem_of_getElem? (i := 28) rfl)) (by decide) (by decide)) q30a q30c (g := (mkF m 215 #[.val (.int u0), .val (.int u1), .val (.int u2), .val (.int u3), .val (.int u4), .val (.int u5), .val (.ref (pk (u3 &&& (3 : Int32)) a_STROKE a_FILL_AND_STROKE a_FILL)), .val (.ref (pk ((u3 >>> ((2 : Int32) &&& 31)) &&& (3 : Int32)) a_Cap_ROUND a_SQUARE a_BUTT)), .val (.ref (pk ((u3 >>> ((4 : Int32) &&& 31)) &&& (3 : Int32)) a_Join_ROUND a_BEVEL a_MITER)), .val (.ref (pk ((u3 >>> ((6 : Int32) &&& 31)) &&& (3 : Int32)) a_CENTER a_RIGHT a_LEFT)), .val (.float fv6), .val (.float fv8), .val (.ref b9), .val (.ref b18)] [(.ref b18)])) rfl (by rw [hml]; rfl) (Steps.refl _) (argsL := []) (rest := []) (lenOf pd_2 rfl) rfl (by show 2 * 0 + _ ≤ _; exact Nat.le_of_eq rfl) (hb hby at_215) (fun _ _ => ⟨rfl, e29, (by decide : 10 + 0 ≤ _), (by decide : 102 + 0 ≤ _)⟩)
  dsimp only [Pt.U, Pt.locs, Pt.cells, Pt.slots] at X30 l30 y30 z30 st30 hQ30
  replace y30 : k30 = 10 := y30
  replace z30 : n30 = 102 := z30
  rw [y30, z30] at X30
  obtain ⟨rfl, N30q, e30⟩ := hQ30
  have N30 : Fr n0 L30 := l30 ▸ Fr.app N29 N30q
  obtain ⟨fs, hr, hrun, hended, hE⟩ := X30.leaveW hS17 (Nat.le_trans hk20 (Nat.le_of_eq (congrArg Array.size e30).symm)) (v := some (.int (1 : Int32))) (fun h => by rw [Bd.returns] at h; cases h)
  refine ⟨_, _, pre0 _ ?_, hrun, hended, _, _, rfl, ?_, ?_, own_monoW hE (by decide) (by decide)⟩
  · show Steps p.tables e below (s₁.setTop (mkF m 0 #[.val (.int u0), .val (.int u1), .val (.int u2), .val (.int u3), .val (.int u4), .val (.int u5), .unset, .unset, .unset, .unset, .unset, .unset, .unset, .unset] [])) _
    refine XS.iloadN X0.here hx rfl (hb hby at_0) rfl ?_
    show Steps p.tables e below (s₁.setTop (mkF m 1 #[.val (.int u0), .val (.int u1), .val (.int u2), .val (.int u3), .val (.int u4), .val (.int u5), .unset, .unset, .unset, .unset, .unset, .unset, .unset, .unset] [(.int u3)])) _
    refine XS.iconst X0.here hx rfl (hb hby at_1) ?_
    show Steps p.tables e below (s₁.setTop (mkF m 2 #[.val (.int u0), .val (.int u1), .val (.int u2), .val (.int u3), .val (.int u4), .val (.int u5), .unset, .unset, .unset, .unset, .unset, .unset, .unset, .unset] [(.int (3 : Int32)), (.int u3)])) _
    refine XS.iand X0.here hx rfl (hb hby at_2) rfl ?_
    show Steps p.tables e below (s₁.setTop (mkF m 3 #[.val (.int u0), .val (.int u1), .val (.int u2), .val (.int u3), .val (.int u4), .val (.int u5), .unset, .unset, .unset, .unset, .unset, .unset, .unset, .unset] [(.int (u3 &&& (3 : Int32)))])) _
    refine st1 _ ?_
    show Steps p.tables e below (T1.setTop (mkF m 6 #[.val (.int u0), .val (.int u1), .val (.int u2), .val (.int u3), .val (.int u4), .val (.int u5), .unset, .unset, .unset, .unset, .unset, .unset, .unset, .unset] [(.ref (pk (u3 &&& (3 : Int32)) a_STROKE a_FILL_AND_STROKE a_FILL))])) _
    refine XS.astore X1.here hx rfl (hb hby at_6) rfl rfl (l' := #[.val (.int u0), .val (.int u1), .val (.int u2), .val (.int u3), .val (.int u4), .val (.int u5), .val (.ref (pk (u3 &&& (3 : Int32)) a_STROKE a_FILL_AND_STROKE a_FILL)), .unset, .unset, .unset, .unset, .unset, .unset, .unset]) rfl ?_
    show Steps p.tables e below (T1.setTop (mkF m 8 #[.val (.int u0), .val (.int u1), .val (.int u2), .val (.int u3), .val (.int u4), .val (.int u5), .val (.ref (pk (u3 &&& (3 : Int32)) a_STROKE a_FILL_AND_STROKE a_FILL)), .unset, .unset, .unset, .unset, .unset, .unset, .unset] [])) _
    refine XS.iloadN X1.here hx rfl (hb hby at_8) rfl ?_
    show Steps p.tables e below (T1.setTop (mkF m 9 #[.val (.int u0), .val (.int u1), .val (.int u2), .val (.int u3), .val (.int u4), .val (.int u5), .val (.ref (pk (u3 &&& (3 : Int32)) a_STROKE a_FILL_AND_STROKE a_FILL)), .unset, .unset, .unset, .unset, .unset, .unset, .unset] [(.int u3)])) _
    refine XS.iconst X1.here hx rfl (hb hby at_9) ?_
    show Steps p.tables e below (T1.setTop (mkF m 10 #[.val (.int u0), .val (.int u1), .val (.int u2), .val (.int u3), .val (.int u4), .val (.int u5), .val (.ref (pk (u3 &&& (3 : Int32)) a_STROKE a_FILL_AND_STROKE a_FILL)), .unset, .unset, .unset, .unset, .unset, .unset, .unset] [(.int (2 : Int32)), (.int u3)])) _
    refine XS.ishr X1.here hx rfl (hb hby at_10) rfl ?_
    show Steps p.tables e below (T1.setTop (mkF m 11 #[.val (.int u0), .val (.int u1), .val (.int u2), .val (.int u3), .val (.int u4), .val (.int u5), .val (.ref (pk (u3 &&& (3 : Int32)) a_STROKE a_FILL_AND_STROKE a_FILL)), .unset, .unset, .unset, .unset, .unset, .unset, .unset] [(.int (u3 >>> ((2 : Int32) &&& 31)))])) _
    refine XS.iconst X1.here hx rfl (hb hby at_11) ?_
    show Steps p.tables e below (T1.setTop (mkF m 12 #[.val (.int u0), .val (.int u1), .val (.int u2), .val (.int u3), .val (.int u4), .val (.int u5), .val (.ref (pk (u3 &&& (3 : Int32)) a_STROKE a_FILL_AND_STROKE a_FILL)), .unset, .unset, .unset, .unset, .unset, .unset, .unset] [(.int (3 : Int32)), (.int (u3 >>> ((2 : Int32) &&& 31)))])) _
    refine XS.iand X1.here hx rfl (hb hby at_12) rfl ?_
    show Steps p.tables e below (T1.setTop (mkF m 13 #[.val (.int u0), .val (.int u1), .val (.int u2), .val (.int u3), .val (.int u4), .val (.int u5), .val (.ref (pk (u3 &&& (3 : Int32)) a_STROKE a_FILL_AND_STROKE a_FILL)), .unset, .unset, .unset, .unset, .unset, .unset, .unset] [(.int ((u3 >>> ((2 : Int32) &&& 31)) &&& (3 : Int32)))])) _
    refine st2 _ ?_
    show Steps p.tables e below (T2.setTop (mkF m 16 #[.val (.int u0), .val (.int u1), .val (.int u2), .val (.int u3), .val (.int u4), .val (.int u5), .val (.ref (pk (u3 &&& (3 : Int32)) a_STROKE a_FILL_AND_STROKE a_FILL)), .unset, .unset, .unset, .unset, .unset, .unset, .unset] [(.ref (pk ((u3 >>> ((2 : Int32) &&& 31)) &&& (3 : Int32)) a_Cap_ROUND a_SQUARE a_BUTT))])) _
    refine XS.astore X2.here hx rfl (hb hby at_16) rfl rfl (l' := #[.val (.int u0), .val (.int u1), .val (.int u2), .val (.int u3), .val (.int u4), .val (.int u5), .val (.ref (pk (u3 &&& (3 : Int32)) a_STROKE a_FILL_AND_STROKE a_FILL)), .val (.ref (pk ((u3 >>> ((2 : Int32) &&& 31)) &&& (3 : Int32)) a_Cap_ROUND a_SQUARE a_BUTT)), .unset, .unset, .unset, .unset, .unset, .unset]) rfl ?_
    show Steps p.tables e below (T2.setTop (mkF m 18 #[.val (.int u0), .val (.int u1), .val (.int u2), .val (.int u3), .val (.int u4), .val (.int u5), .val (.ref (pk (u3 &&& (3 : Int32)) a_STROKE a_FILL_AND_STROKE a_FILL)), .val (.ref (pk ((u3 >>> ((2 : Int32) &&& 31)) &&& (3 : Int32)) a_Cap_ROUND a_SQUARE a_BUTT)), .unset, .unset, .unset, .unset, .unset, .unset] [])) _
    refine XS.iloadN X2.here hx rfl (hb hby at_18) rfl ?_
    show Steps p.tables e below (T2.setTop (mkF m 19 #[.val (.int u0), .val (.int u1), .val (.int u2), .val (.int u3), .val (.int u4), .val (.int u5), .val (.ref (pk (u3 &&& (3 : Int32)) a_STROKE a_FILL_AND_STROKE a_FILL)), .val (.ref (pk ((u3 >>> ((2 : Int32) &&& 31)) &&& (3 : Int32)) a_Cap_ROUND a_SQUARE a_BUTT)), .unset, .unset, .unset, .unset, .unset, .unset] [(.int u3)])) _
    refine XS.iconst X2.here hx rfl (hb hby at_19) ?_
    show Steps p.tables e below (T2.setTop (mkF m 20 #[.val (.int u0), .val (.int u1), .val (.int u2), .val (.int u3), .val (.int u4), .val (.int u5), .val (.ref (pk (u3 &&& (3 : Int32)) a_STROKE a_FILL_AND_STROKE a_FILL)), .val (.ref (pk ((u3 >>> ((2 : Int32) &&& 31)) &&& (3 : Int32)) a_Cap_ROUND a_SQUARE a_BUTT)), .unset, .unset, .unset, .unset, .unset, .unset] [(.int (4 : Int32)), (.int u3)])) _
    refine XS.ishr X2.here hx rfl (hb hby at_20) rfl ?_
    show Steps p.tables e below (T2.setTop (mkF m 21 #[.val (.int u0), .val (.int u1), .val (.int u2), .val (.int u3), .val (.int u4), .val (.int u5), .val (.ref (pk (u3 &&& (3 : Int32)) a_STROKE a_FILL_AND_STROKE a_FILL)), .val (.ref (pk ((u3 >>> ((2 : Int32) &&& 31)) &&& (3 : Int32)) a_Cap_ROUND a_SQUARE a_BUTT)), .unset, .unset, .unset, .unset, .unset, .unset] [(.int (u3 >>> ((4 : Int32) &&& 31)))])) _
    refine XS.iconst X2.here hx rfl (hb hby at_21) ?_
    show Steps p.tables e below (T2.setTop (mkF m 22 #[.val (.int u0), .val (.int u1), .val (.int u2), .val (.int u3), .val (.int u4), .val (.int u5), .val (.ref (pk (u3 &&& (3 : Int32)) a_STROKE a_FILL_AND_STROKE a_FILL)), .val (.ref (pk ((u3 >>> ((2 : Int32) &&& 31)) &&& (3 : Int32)) a_Cap_ROUND a_SQUARE a_BUTT)), .unset, .unset, .unset, .unset, .unset, .unset] [(.int (3 : Int32)), (.int (u3 >>> ((4 : Int32) &&& 31)))])) _
    refine XS.iand X2.here hx rfl (hb hby at_22) rfl ?_
    show Steps p.tables e below (T2.setTop (mkF m 23 #[.val (.int u0), .val (.int u1), .val (.int u2), .val (.int u3), .val (.int u4), .val (.int u5), .val (.ref (pk (u3 &&& (3 : Int32)) a_STROKE a_FILL_AND_STROKE a_FILL)), .val (.ref (pk ((u3 >>> ((2 : Int32) &&& 31)) &&& (3 : Int32)) a_Cap_ROUND a_SQUARE a_BUTT)), .unset, .unset, .unset, .unset, .unset, .unset] [(.int ((u3 >>> ((4 : Int32) &&& 31)) &&& (3 : Int32)))])) _
    refine st3 _ ?_
    show Steps p.tables e below (T3.setTop (mkF m 26 #[.val (.int u0), .val (.int u1), .val (.int u2), .val (.int u3), .val (.int u4), .val (.int u5), .val (.ref (pk (u3 &&& (3 : Int32)) a_STROKE a_FILL_AND_STROKE a_FILL)), .val (.ref (pk ((u3 >>> ((2 : Int32) &&& 31)) &&& (3 : Int32)) a_Cap_ROUND a_SQUARE a_BUTT)), .unset, .unset, .unset, .unset, .unset, .unset] [(.ref (pk ((u3 >>> ((4 : Int32) &&& 31)) &&& (3 : Int32)) a_Join_ROUND a_BEVEL a_MITER))])) _
    refine XS.astore X3.here hx rfl (hb hby at_26) rfl rfl (l' := #[.val (.int u0), .val (.int u1), .val (.int u2), .val (.int u3), .val (.int u4), .val (.int u5), .val (.ref (pk (u3 &&& (3 : Int32)) a_STROKE a_FILL_AND_STROKE a_FILL)), .val (.ref (pk ((u3 >>> ((2 : Int32) &&& 31)) &&& (3 : Int32)) a_Cap_ROUND a_SQUARE a_BUTT)), .val (.ref (pk ((u3 >>> ((4 : Int32) &&& 31)) &&& (3 : Int32)) a_Join_ROUND a_BEVEL a_MITER)), .unset, .unset, .unset, .unset, .unset]) rfl ?_
    show Steps p.tables e below (T3.setTop (mkF m 28 #[.val (.int u0), .val (.int u1), .val (.int u2), .val (.int u3), .val (.int u4), .val (.int u5), .val (.ref (pk (u3 &&& (3 : Int32)) a_STROKE a_FILL_AND_STROKE a_FILL)), .val (.ref (pk ((u3 >>> ((2 : Int32) &&& 31)) &&& (3 : Int32)) a_Cap_ROUND a_SQUARE a_BUTT)), .val (.ref (pk ((u3 >>> ((4 : Int32) &&& 31)) &&& (3 : Int32)) a_Join_ROUND a_BEVEL a_MITER)), .unset, .unset, .unset, .unset, .unset] [])) _
    refine XS.iloadN X3.here hx rfl (hb hby at_28) rfl ?_
    show Steps p.tables e below (T3.setTop (mkF m 29 #[.val (.int u0), .val (.int u1), .val (.int u2), .val (.int u3), .val (.int u4), .val (.int u5), .val (.ref (pk (u3 &&& (3 : Int32)) a_STROKE a_FILL_AND_STROKE a_FILL)), .val (.ref (pk ((u3 >>> ((2 : Int32) &&& 31)) &&& (3 : Int32)) a_Cap_ROUND a_SQUARE a_BUTT)), .val (.ref (pk ((u3 >>> ((4 : Int32) &&& 31)) &&& (3 : Int32)) a_Join_ROUND a_BEVEL a_MITER)), .unset, .unset, .unset, .unset, .unset] [(.int u3)])) _
    refine XS.bipush X3.here hx rfl (hb hby at_29) ?_
    show Steps p.tables e below (T3.setTop (mkF m 31 #[.val (.int u0), .val (.int u1), .val (.int u2), .val (.int u3), .val (.int u4), .val (.int u5), .val (.ref (pk (u3 &&& (3 : Int32)) a_STROKE a_FILL_AND_STROKE a_FILL)), .val (.ref (pk ((u3 >>> ((2 : Int32) &&& 31)) &&& (3 : Int32)) a_Cap_ROUND a_SQUARE a_BUTT)), .val (.ref (pk ((u3 >>> ((4 : Int32) &&& 31)) &&& (3 : Int32)) a_Join_ROUND a_BEVEL a_MITER)), .unset, .unset, .unset, .unset, .unset] [(.int (6 : Int32)), (.int u3)])) _
    refine XS.ishr X3.here hx rfl (hb hby at_31) rfl ?_
    show Steps p.tables e below (T3.setTop (mkF m 32 #[.val (.int u0), .val (.int u1), .val (.int u2), .val (.int u3), .val (.int u4), .val (.int u5), .val (.ref (pk (u3 &&& (3 : Int32)) a_STROKE a_FILL_AND_STROKE a_FILL)), .val (.ref (pk ((u3 >>> ((2 : Int32) &&& 31)) &&& (3 : Int32)) a_Cap_ROUND a_SQUARE a_BUTT)), .val (.ref (pk ((u3 >>> ((4 : Int32) &&& 31)) &&& (3 : Int32)) a_Join_ROUND a_BEVEL a_MITER)), .unset, .unset, .unset, .unset, .unset] [(.int (u3 >>> ((6 : Int32) &&& 31)))])) _
    refine XS.iconst X3.here hx rfl (hb hby at_32) ?_
    show Steps p.tables e below (T3.setTop (mkF m 33 #[.val (.int u0), .val (.int u1), .val (.int u2), .val (.int u3), .val (.int u4), .val (.int u5), .val (.ref (pk (u3 &&& (3 : Int32)) a_STROKE a_FILL_AND_STROKE a_FILL)), .val (.ref (pk ((u3 >>> ((2 : Int32) &&& 31)) &&& (3 : Int32)) a_Cap_ROUND a_SQUARE a_BUTT)), .val (.ref (pk ((u3 >>> ((4 : Int32) &&& 31)) &&& (3 : Int32)) a_Join_ROUND a_BEVEL a_MITER)), .unset, .unset, .unset, .unset, .unset] [(.int (3 : Int32)), (.int (u3 >>> ((6 : Int32) &&& 31)))])) _
    refine XS.iand X3.here hx rfl (hb hby at_33) rfl ?_
    show Steps p.tables e below (T3.setTop (mkF m 34 #[.val (.int u0), .val (.int u1), .val (.int u2), .val (.int u3), .val (.int u4), .val (.int u5), .val (.ref (pk (u3 &&& (3 : Int32)) a_STROKE a_FILL_AND_STROKE a_FILL)), .val (.ref (pk ((u3 >>> ((2 : Int32) &&& 31)) &&& (3 : Int32)) a_Cap_ROUND a_SQUARE a_BUTT)), .val (.ref (pk ((u3 >>> ((4 : Int32) &&& 31)) &&& (3 : Int32)) a_Join_ROUND a_BEVEL a_MITER)), .unset, .unset, .unset, .unset, .unset] [(.int ((u3 >>> ((6 : Int32) &&& 31)) &&& (3 : Int32)))])) _
    refine st4 _ ?_
    show Steps p.tables e below (T4.setTop (mkF m 37 #[.val (.int u0), .val (.int u1), .val (.int u2), .val (.int u3), .val (.int u4), .val (.int u5), .val (.ref (pk (u3 &&& (3 : Int32)) a_STROKE a_FILL_AND_STROKE a_FILL)), .val (.ref (pk ((u3 >>> ((2 : Int32) &&& 31)) &&& (3 : Int32)) a_Cap_ROUND a_SQUARE a_BUTT)), .val (.ref (pk ((u3 >>> ((4 : Int32) &&& 31)) &&& (3 : Int32)) a_Join_ROUND a_BEVEL a_MITER)), .unset, .unset, .unset, .unset, .unset] [(.ref (pk ((u3 >>> ((6 : Int32) &&& 31)) &&& (3 : Int32)) a_CENTER a_RIGHT a_LEFT))])) _
    refine XS.astore X4.here hx rfl (hb hby at_37) rfl rfl (l' := #[.val (.int u0), .val (.int u1), .val (.int u2), .val (.int u3), .val (.int u4), .val (.int u5), .val (.ref (pk (u3 &&& (3 : Int32)) a_STROKE a_FILL_AND_STROKE a_FILL)), .val (.ref (pk ((u3 >>> ((2 : Int32) &&& 31)) &&& (3 : Int32)) a_Cap_ROUND a_SQUARE a_BUTT)), .val (.ref (pk ((u3 >>> ((4 : Int32) &&& 31)) &&& (3 : Int32)) a_Join_ROUND a_BEVEL a_MITER)), .val (.ref (pk ((u3 >>> ((6 : Int32) &&& 31)) &&& (3 : Int32)) a_CENTER a_RIGHT a_LEFT)), .unset, .unset, .unset, .unset]) rfl ?_
    show Steps p.tables e below (T4.setTop (mkF m 39 #[.val (.int u0), .val (.int u1), .val (.int u2), .val (.int u3), .val (.int u4), .val (.int u5), .val (.ref (pk (u3 &&& (3 : Int32)) a_STROKE a_FILL_AND_STROKE a_FILL)), .val (.ref (pk ((u3 >>> ((2 : Int32) &&& 31)) &&& (3 : Int32)) a_Cap_ROUND a_SQUARE a_BUTT)), .val (.ref (pk ((u3 >>> ((4 : Int32) &&& 31)) &&& (3 : Int32)) a_Join_ROUND a_BEVEL a_MITER)), .val (.ref (pk ((u3 >>> ((6 : Int32) &&& 31)) &&& (3 : Int32)) a_CENTER a_RIGHT a_LEFT)), .unset, .unset, .unset, .unset] [])) _
    refine XS.iload X4.here hx rfl (hb hby at_39) rfl ?_
    show Steps p.tables e below (T4.setTop (mkF m 41 #[.val (.int u0), .val (.int u1), .val (.int u2), .val (.int u3), .val (.int u4), .val (.int u5), .val (.ref (pk (u3 &&& (3 : Int32)) a_STROKE a_FILL_AND_STROKE a_FILL)), .val (.ref (pk ((u3 >>> ((2 : Int32) &&& 31)) &&& (3 : Int32)) a_Cap_ROUND a_SQUARE a_BUTT)), .val (.ref (pk ((u3 >>> ((4 : Int32) &&& 31)) &&& (3 : Int32)) a_Join_ROUND a_BEVEL a_MITER)), .val (.ref (pk ((u3 >>> ((6 : Int32) &&& 31)) &&& (3 : Int32)) a_CENTER a_RIGHT a_LEFT)), .unset, .unset, .unset, .unset] [(.int u4)])) _
    refine st5 _ ?_
    show Steps p.tables e below (T4.setTop (mkF m 43 #[.val (.int u0), .val (.int u1), .val (.int u2), .val (.int u3), .val (.int u4), .val (.int u5), .val (.ref (pk (u3 &&& (3 : Int32)) a_STROKE a_FILL_AND_STROKE a_FILL)), .val (.ref (pk ((u3 >>> ((2 : Int32) &&& 31)) &&& (3 : Int32)) a_Cap_ROUND a_SQUARE a_BUTT)), .val (.ref (pk ((u3 >>> ((4 : Int32) &&& 31)) &&& (3 : Int32)) a_Join_ROUND a_BEVEL a_MITER)), .val (.ref (pk ((u3 >>> ((6 : Int32) &&& 31)) &&& (3 : Int32)) a_CENTER a_RIGHT a_LEFT)), .unset, .unset, .unset, .unset] [(.int (1048575 : Int32)), (.int u4)])) _
    refine XS.iand X4.here hx rfl (hb hby at_43) rfl ?_
    show Steps p.tables e below (T4.setTop (mkF m 44 #[.val (.int u0), .val (.int u1), .val (.int u2), .val (.int u3), .val (.int u4), .val (.int u5), .val (.ref (pk (u3 &&& (3 : Int32)) a_STROKE a_FILL_AND_STROKE a_FILL)), .val (.ref (pk ((u3 >>> ((2 : Int32) &&& 31)) &&& (3 : Int32)) a_Cap_ROUND a_SQUARE a_BUTT)), .val (.ref (pk ((u3 >>> ((4 : Int32) &&& 31)) &&& (3 : Int32)) a_Join_ROUND a_BEVEL a_MITER)), .val (.ref (pk ((u3 >>> ((6 : Int32) &&& 31)) &&& (3 : Int32)) a_CENTER a_RIGHT a_LEFT)), .unset, .unset, .unset, .unset] [(.int (u4 &&& (1048575 : Int32)))])) _
    refine XS.i2fS X4.here hx rfl (hb hby at_44) rfl (v := fv6) fe6.symm ?_
    show Steps p.tables e below (T4.setTop (mkF m 45 #[.val (.int u0), .val (.int u1), .val (.int u2), .val (.int u3), .val (.int u4), .val (.int u5), .val (.ref (pk (u3 &&& (3 : Int32)) a_STROKE a_FILL_AND_STROKE a_FILL)), .val (.ref (pk ((u3 >>> ((2 : Int32) &&& 31)) &&& (3 : Int32)) a_Cap_ROUND a_SQUARE a_BUTT)), .val (.ref (pk ((u3 >>> ((4 : Int32) &&& 31)) &&& (3 : Int32)) a_Join_ROUND a_BEVEL a_MITER)), .val (.ref (pk ((u3 >>> ((6 : Int32) &&& 31)) &&& (3 : Int32)) a_CENTER a_RIGHT a_LEFT)), .unset, .unset, .unset, .unset] [(.float fv6)])) _
    refine XS.fstore X4.here hx rfl (hb hby at_45) rfl (l' := #[.val (.int u0), .val (.int u1), .val (.int u2), .val (.int u3), .val (.int u4), .val (.int u5), .val (.ref (pk (u3 &&& (3 : Int32)) a_STROKE a_FILL_AND_STROKE a_FILL)), .val (.ref (pk ((u3 >>> ((2 : Int32) &&& 31)) &&& (3 : Int32)) a_Cap_ROUND a_SQUARE a_BUTT)), .val (.ref (pk ((u3 >>> ((4 : Int32) &&& 31)) &&& (3 : Int32)) a_Join_ROUND a_BEVEL a_MITER)), .val (.ref (pk ((u3 >>> ((6 : Int32) &&& 31)) &&& (3 : Int32)) a_CENTER a_RIGHT a_LEFT)), .val (.float fv6), .unset, .unset, .unset]) rfl ?_
    show Steps p.tables e below (T4.setTop (mkF m 47 #[.val (.int u0), .val (.int u1), .val (.int u2), .val (.int u3), .val (.int u4), .val (.int u5), .val (.ref (pk (u3 &&& (3 : Int32)) a_STROKE a_FILL_AND_STROKE a_FILL)), .val (.ref (pk ((u3 >>> ((2 : Int32) &&& 31)) &&& (3 : Int32)) a_Cap_ROUND a_SQUARE a_BUTT)), .val (.ref (pk ((u3 >>> ((4 : Int32) &&& 31)) &&& (3 : Int32)) a_Join_ROUND a_BEVEL a_MITER)), .val (.ref (pk ((u3 >>> ((6 : Int32) &&& 31)) &&& (3 : Int32)) a_CENTER a_RIGHT a_LEFT)), .val (.float fv6), .unset, .unset, .unset] [])) _
    refine XS.iload X4.here hx rfl (hb hby at_47) rfl ?_
    show Steps p.tables e below (T4.setTop (mkF m 49 #[.val (.int u0), .val (.int u1), .val (.int u2), .val (.int u3), .val (.int u4), .val (.int u5), .val (.ref (pk (u3 &&& (3 : Int32)) a_STROKE a_FILL_AND_STROKE a_FILL)), .val (.ref (pk ((u3 >>> ((2 : Int32) &&& 31)) &&& (3 : Int32)) a_Cap_ROUND a_SQUARE a_BUTT)), .val (.ref (pk ((u3 >>> ((4 : Int32) &&& 31)) &&& (3 : Int32)) a_Join_ROUND a_BEVEL a_MITER)), .val (.ref (pk ((u3 >>> ((6 : Int32) &&& 31)) &&& (3 : Int32)) a_CENTER a_RIGHT a_LEFT)), .val (.float fv6), .unset, .unset, .unset] [(.int u5)])) _
    refine st7 _ ?_
    show Steps p.tables e below (T4.setTop (mkF m 51 #[.val (.int u0), .val (.int u1), .val (.int u2), .val (.int u3), .val (.int u4), .val (.int u5), .val (.ref (pk (u3 &&& (3 : Int32)) a_STROKE a_FILL_AND_STROKE a_FILL)), .val (.ref (pk ((u3 >>> ((2 : Int32) &&& 31)) &&& (3 : Int32)) a_Cap_ROUND a_SQUARE a_BUTT)), .val (.ref (pk ((u3 >>> ((4 : Int32) &&& 31)) &&& (3 : Int32)) a_Join_ROUND a_BEVEL a_MITER)), .val (.ref (pk ((u3 >>> ((6 : Int32) &&& 31)) &&& (3 : Int32)) a_CENTER a_RIGHT a_LEFT)), .val (.float fv6), .unset, .unset, .unset] [(.int (1048575 : Int32)), (.int u5)])) _
    refine XS.iand X4.here hx rfl (hb hby at_51) rfl ?_
    show Steps p.tables e below (T4.setTop (mkF m 52 #[.val (.int u0), .val (.int u1), .val (.int u2), .val (.int u3), .val (.int u4), .val (.int u5), .val (.ref (pk (u3 &&& (3 : Int32)) a_STROKE a_FILL_AND_STROKE a_FILL)), .val (.ref (pk ((u3 >>> ((2 : Int32) &&& 31)) &&& (3 : Int32)) a_Cap_ROUND a_SQUARE a_BUTT)), .val (.ref (pk ((u3 >>> ((4 : Int32) &&& 31)) &&& (3 : Int32)) a_Join_ROUND a_BEVEL a_MITER)), .val (.ref (pk ((u3 >>> ((6 : Int32) &&& 31)) &&& (3 : Int32)) a_CENTER a_RIGHT a_LEFT)), .val (.float fv6), .unset, .unset, .unset] [(.int (u5 &&& (1048575 : Int32)))])) _
    refine XS.i2fS X4.here hx rfl (hb hby at_52) rfl (v := fv8) fe8.symm ?_
    show Steps p.tables e below (T4.setTop (mkF m 53 #[.val (.int u0), .val (.int u1), .val (.int u2), .val (.int u3), .val (.int u4), .val (.int u5), .val (.ref (pk (u3 &&& (3 : Int32)) a_STROKE a_FILL_AND_STROKE a_FILL)), .val (.ref (pk ((u3 >>> ((2 : Int32) &&& 31)) &&& (3 : Int32)) a_Cap_ROUND a_SQUARE a_BUTT)), .val (.ref (pk ((u3 >>> ((4 : Int32) &&& 31)) &&& (3 : Int32)) a_Join_ROUND a_BEVEL a_MITER)), .val (.ref (pk ((u3 >>> ((6 : Int32) &&& 31)) &&& (3 : Int32)) a_CENTER a_RIGHT a_LEFT)), .val (.float fv6), .unset, .unset, .unset] [(.float fv8)])) _
    refine XS.fstore X4.here hx rfl (hb hby at_53) rfl (l' := #[.val (.int u0), .val (.int u1), .val (.int u2), .val (.int u3), .val (.int u4), .val (.int u5), .val (.ref (pk (u3 &&& (3 : Int32)) a_STROKE a_FILL_AND_STROKE a_FILL)), .val (.ref (pk ((u3 >>> ((2 : Int32) &&& 31)) &&& (3 : Int32)) a_Cap_ROUND a_SQUARE a_BUTT)), .val (.ref (pk ((u3 >>> ((4 : Int32) &&& 31)) &&& (3 : Int32)) a_Join_ROUND a_BEVEL a_MITER)), .val (.ref (pk ((u3 >>> ((6 : Int32) &&& 31)) &&& (3 : Int32)) a_CENTER a_RIGHT a_LEFT)), .val (.float fv6), .val (.float fv8), .unset, .unset]) rfl ?_
    show Steps p.tables e below (T4.setTop (mkF m 55 #[.val (.int u0), .val (.int u1), .val (.int u2), .val (.int u3), .val (.int u4), .val (.int u5), .val (.ref (pk (u3 &&& (3 : Int32)) a_STROKE a_FILL_AND_STROKE a_FILL)), .val (.ref (pk ((u3 >>> ((2 : Int32) &&& 31)) &&& (3 : Int32)) a_Cap_ROUND a_SQUARE a_BUTT)), .val (.ref (pk ((u3 >>> ((4 : Int32) &&& 31)) &&& (3 : Int32)) a_Join_ROUND a_BEVEL a_MITER)), .val (.ref (pk ((u3 >>> ((6 : Int32) &&& 31)) &&& (3 : Int32)) a_CENTER a_RIGHT a_LEFT)), .val (.float fv6), .val (.float fv8), .unset, .unset] [])) _
    refine st9 _ ?_
    show Steps p.tables e below (T9.setTop (mkF m 58 #[.val (.int u0), .val (.int u1), .val (.int u2), .val (.int u3), .val (.int u4), .val (.int u5), .val (.ref (pk (u3 &&& (3 : Int32)) a_STROKE a_FILL_AND_STROKE a_FILL)), .val (.ref (pk ((u3 >>> ((2 : Int32) &&& 31)) &&& (3 : Int32)) a_Cap_ROUND a_SQUARE a_BUTT)), .val (.ref (pk ((u3 >>> ((4 : Int32) &&& 31)) &&& (3 : Int32)) a_Join_ROUND a_BEVEL a_MITER)), .val (.ref (pk ((u3 >>> ((6 : Int32) &&& 31)) &&& (3 : Int32)) a_CENTER a_RIGHT a_LEFT)), .val (.float fv6), .val (.float fv8), .unset, .unset] [(.ref b9)])) _
    refine XS.dup X9.here hx rfl (hb hby at_58) rfl rfl ?_
    show Steps p.tables e below (T9.setTop (mkF m 59 #[.val (.int u0), .val (.int u1), .val (.int u2), .val (.int u3), .val (.int u4), .val (.int u5), .val (.ref (pk (u3 &&& (3 : Int32)) a_STROKE a_FILL_AND_STROKE a_FILL)), .val (.ref (pk ((u3 >>> ((2 : Int32) &&& 31)) &&& (3 : Int32)) a_Cap_ROUND a_SQUARE a_BUTT)), .val (.ref (pk ((u3 >>> ((4 : Int32) &&& 31)) &&& (3 : Int32)) a_Join_ROUND a_BEVEL a_MITER)), .val (.ref (pk ((u3 >>> ((6 : Int32) &&& 31)) &&& (3 : Int32)) a_CENTER a_RIGHT a_LEFT)), .val (.float fv6), .val (.float fv8), .unset, .unset] [(.ref b9), (.ref b9)])) _
    refine XS.iloadN X9.here hx rfl (hb hby at_59) rfl ?_
    show Steps p.tables e below (T9.setTop (mkF m 60 #[.val (.int u0), .val (.int u1), .val (.int u2), .val (.int u3), .val (.int u4), .val (.int u5), .val (.ref (pk (u3 &&& (3 : Int32)) a_STROKE a_FILL_AND_STROKE a_FILL)), .val (.ref (pk ((u3 >>> ((2 : Int32) &&& 31)) &&& (3 : Int32)) a_Cap_ROUND a_SQUARE a_BUTT)), .val (.ref (pk ((u3 >>> ((4 : Int32) &&& 31)) &&& (3 : Int32)) a_Join_ROUND a_BEVEL a_MITER)), .val (.ref (pk ((u3 >>> ((6 : Int32) &&& 31)) &&& (3 : Int32)) a_CENTER a_RIGHT a_LEFT)), .val (.float fv6), .val (.float fv8), .unset, .unset] [(.int u0), (.ref b9), (.ref b9)])) _
    refine st10.trans ?_
    show Steps p.tables e below (T10.setTop (mkF m 63 #[.val (.int u0), .val (.int u1), .val (.int u2), .val (.int u3), .val (.int u4), .val (.int u5), .val (.ref (pk (u3 &&& (3 : Int32)) a_STROKE a_FILL_AND_STROKE a_FILL)), .val (.ref (pk ((u3 >>> ((2 : Int32) &&& 31)) &&& (3 : Int32)) a_Cap_ROUND a_SQUARE a_BUTT)), .val (.ref (pk ((u3 >>> ((4 : Int32) &&& 31)) &&& (3 : Int32)) a_Join_ROUND a_BEVEL a_MITER)), .val (.ref (pk ((u3 >>> ((6 : Int32) &&& 31)) &&& (3 : Int32)) a_CENTER a_RIGHT a_LEFT)), .val (.float fv6), .val (.float fv8), .unset, .unset] [(.ref b9)])) _
    refine XS.astore X10.here hx rfl (hb hby at_63) rfl rfl (l' := #[.val (.int u0), .val (.int u1), .val (.int u2), .val (.int u3), .val (.int u4), .val (.int u5), .val (.ref (pk (u3 &&& (3 : Int32)) a_STROKE a_FILL_AND_STROKE a_FILL)), .val (.ref (pk ((u3 >>> ((2 : Int32) &&& 31)) &&& (3 : Int32)) a_Cap_ROUND a_SQUARE a_BUTT)), .val (.ref (pk ((u3 >>> ((4 : Int32) &&& 31)) &&& (3 : Int32)) a_Join_ROUND a_BEVEL a_MITER)), .val (.ref (pk ((u3 >>> ((6 : Int32) &&& 31)) &&& (3 : Int32)) a_CENTER a_RIGHT a_LEFT)), .val (.float fv6), .val (.float fv8), .val (.ref b9), .unset]) rfl ?_
    show Steps p.tables e below (T10.setTop (mkF m 65 #[.val (.int u0), .val (.int u1), .val (.int u2), .val (.int u3), .val (.int u4), .val (.int u5), .val (.ref (pk (u3 &&& (3 : Int32)) a_STROKE a_FILL_AND_STROKE a_FILL)), .val (.ref (pk ((u3 >>> ((2 : Int32) &&& 31)) &&& (3 : Int32)) a_Cap_ROUND a_SQUARE a_BUTT)), .val (.ref (pk ((u3 >>> ((4 : Int32) &&& 31)) &&& (3 : Int32)) a_Join_ROUND a_BEVEL a_MITER)), .val (.ref (pk ((u3 >>> ((6 : Int32) &&& 31)) &&& (3 : Int32)) a_CENTER a_RIGHT a_LEFT)), .val (.float fv6), .val (.float fv8), .val (.ref b9), .unset] [])) _
    refine XS.aload X10.here hx rfl (hb hby at_65) rfl rfl ?_
    show Steps p.tables e below (T10.setTop (mkF m 67 #[.val (.int u0), .val (.int u1), .val (.int u2), .val (.int u3), .val (.int u4), .val (.int u5), .val (.ref (pk (u3 &&& (3 : Int32)) a_STROKE a_FILL_AND_STROKE a_FILL)), .val (.ref (pk ((u3 >>> ((2 : Int32) &&& 31)) &&& (3 : Int32)) a_Cap_ROUND a_SQUARE a_BUTT)), .val (.ref (pk ((u3 >>> ((4 : Int32) &&& 31)) &&& (3 : Int32)) a_Join_ROUND a_BEVEL a_MITER)), .val (.ref (pk ((u3 >>> ((6 : Int32) &&& 31)) &&& (3 : Int32)) a_CENTER a_RIGHT a_LEFT)), .val (.float fv6), .val (.float fv8), .val (.ref b9), .unset] [(.ref b9)])) _
    refine XS.iloadN X10.here hx rfl (hb hby at_67) rfl ?_
    show Steps p.tables e below (T10.setTop (mkF m 68 #[.val (.int u0), .val (.int u1), .val (.int u2), .val (.int u3), .val (.int u4), .val (.int u5), .val (.ref (pk (u3 &&& (3 : Int32)) a_STROKE a_FILL_AND_STROKE a_FILL)), .val (.ref (pk ((u3 >>> ((2 : Int32) &&& 31)) &&& (3 : Int32)) a_Cap_ROUND a_SQUARE a_BUTT)), .val (.ref (pk ((u3 >>> ((4 : Int32) &&& 31)) &&& (3 : Int32)) a_Join_ROUND a_BEVEL a_MITER)), .val (.ref (pk ((u3 >>> ((6 : Int32) &&& 31)) &&& (3 : Int32)) a_CENTER a_RIGHT a_LEFT)), .val (.float fv6), .val (.float fv8), .val (.ref b9), .unset] [(.int u2), (.ref b9)])) _
    refine st11.trans ?_
    show Steps p.tables e below (T11.setTop (mkF m 71 #[.val (.int u0), .val (.int u1), .val (.int u2), .val (.int u3), .val (.int u4), .val (.int u5), .val (.ref (pk (u3 &&& (3 : Int32)) a_STROKE a_FILL_AND_STROKE a_FILL)), .val (.ref (pk ((u3 >>> ((2 : Int32) &&& 31)) &&& (3 : Int32)) a_Cap_ROUND a_SQUARE a_BUTT)), .val (.ref (pk ((u3 >>> ((4 : Int32) &&& 31)) &&& (3 : Int32)) a_Join_ROUND a_BEVEL a_MITER)), .val (.ref (pk ((u3 >>> ((6 : Int32) &&& 31)) &&& (3 : Int32)) a_CENTER a_RIGHT a_LEFT)), .val (.float fv6), .val (.float fv8), .val (.ref b9), .unset] [])) _
    refine XS.aload X11.here hx rfl (hb hby at_71) rfl rfl ?_
    show Steps p.tables e below (T11.setTop (mkF m 73 #[.val (.int u0), .val (.int u1), .val (.int u2), .val (.int u3), .val (.int u4), .val (.int u5), .val (.ref (pk (u3 &&& (3 : Int32)) a_STROKE a_FILL_AND_STROKE a_FILL)), .val (.ref (pk ((u3 >>> ((2 : Int32) &&& 31)) &&& (3 : Int32)) a_Cap_ROUND a_SQUARE a_BUTT)), .val (.ref (pk ((u3 >>> ((4 : Int32) &&& 31)) &&& (3 : Int32)) a_Join_ROUND a_BEVEL a_MITER)), .val (.ref (pk ((u3 >>> ((6 : Int32) &&& 31)) &&& (3 : Int32)) a_CENTER a_RIGHT a_LEFT)), .val (.float fv6), .val (.float fv8), .val (.ref b9), .unset] [(.ref b9)])) _
    refine XS.aload X11.here hx rfl (hb hby at_73) rfl rfl ?_
    show Steps p.tables e below (T11.setTop (mkF m 75 #[.val (.int u0), .val (.int u1), .val (.int u2), .val (.int u3), .val (.int u4), .val (.int u5), .val (.ref (pk (u3 &&& (3 : Int32)) a_STROKE a_FILL_AND_STROKE a_FILL)), .val (.ref (pk ((u3 >>> ((2 : Int32) &&& 31)) &&& (3 : Int32)) a_Cap_ROUND a_SQUARE a_BUTT)), .val (.ref (pk ((u3 >>> ((4 : Int32) &&& 31)) &&& (3 : Int32)) a_Join_ROUND a_BEVEL a_MITER)), .val (.ref (pk ((u3 >>> ((6 : Int32) &&& 31)) &&& (3 : Int32)) a_CENTER a_RIGHT a_LEFT)), .val (.float fv6), .val (.float fv8), .val (.ref b9), .unset] [(.ref (pk (u3 &&& (3 : Int32)) a_STROKE a_FILL_AND_STROKE a_FILL)), (.ref b9)])) _
    refine st12.trans ?_
    show Steps p.tables e below (T12.setTop (mkF m 78 #[.val (.int u0), .val (.int u1), .val (.int u2), .val (.int u3), .val (.int u4), .val (.int u5), .val (.ref (pk (u3 &&& (3 : Int32)) a_STROKE a_FILL_AND_STROKE a_FILL)), .val (.ref (pk ((u3 >>> ((2 : Int32) &&& 31)) &&& (3 : Int32)) a_Cap_ROUND a_SQUARE a_BUTT)), .val (.ref (pk ((u3 >>> ((4 : Int32) &&& 31)) &&& (3 : Int32)) a_Join_ROUND a_BEVEL a_MITER)), .val (.ref (pk ((u3 >>> ((6 : Int32) &&& 31)) &&& (3 : Int32)) a_CENTER a_RIGHT a_LEFT)), .val (.float fv6), .val (.float fv8), .val (.ref b9), .unset] [])) _
    refine XS.aload X12.here hx rfl (hb hby at_78) rfl rfl ?_
    show Steps p.tables e below (T12.setTop (mkF m 80 #[.val (.int u0), .val (.int u1), .val (.int u2), .val (.int u3), .val (.int u4), .val (.int u5), .val (.ref (pk (u3 &&& (3 : Int32)) a_STROKE a_FILL_AND_STROKE a_FILL)), .val (.ref (pk ((u3 >>> ((2 : Int32) &&& 31)) &&& (3 : Int32)) a_Cap_ROUND a_SQUARE a_BUTT)), .val (.ref (pk ((u3 >>> ((4 : Int32) &&& 31)) &&& (3 : Int32)) a_Join_ROUND a_BEVEL a_MITER)), .val (.ref (pk ((u3 >>> ((6 : Int32) &&& 31)) &&& (3 : Int32)) a_CENTER a_RIGHT a_LEFT)), .val (.float fv6), .val (.float fv8), .val (.ref b9), .unset] [(.ref b9)])) _
    refine XS.fload X12.here hx rfl (hb hby at_80) rfl ?_
    show Steps p.tables e below (T12.setTop (mkF m 82 #[.val (.int u0), .val (.int u1), .val (.int u2), .val (.int u3), .val (.int u4), .val (.int u5), .val (.ref (pk (u3 &&& (3 : Int32)) a_STROKE a_FILL_AND_STROKE a_FILL)), .val (.ref (pk ((u3 >>> ((2 : Int32) &&& 31)) &&& (3 : Int32)) a_Cap_ROUND a_SQUARE a_BUTT)), .val (.ref (pk ((u3 >>> ((4 : Int32) &&& 31)) &&& (3 : Int32)) a_Join_ROUND a_BEVEL a_MITER)), .val (.ref (pk ((u3 >>> ((6 : Int32) &&& 31)) &&& (3 : Int32)) a_CENTER a_RIGHT a_LEFT)), .val (.float fv6), .val (.float fv8), .val (.ref b9), .unset] [(.float fv6), (.ref b9)])) _
    refine st13.trans ?_
    show Steps p.tables e below (T13.setTop (mkF m 85 #[.val (.int u0), .val (.int u1), .val (.int u2), .val (.int u3), .val (.int u4), .val (.int u5), .val (.ref (pk (u3 &&& (3 : Int32)) a_STROKE a_FILL_AND_STROKE a_FILL)), .val (.ref (pk ((u3 >>> ((2 : Int32) &&& 31)) &&& (3 : Int32)) a_Cap_ROUND a_SQUARE a_BUTT)), .val (.ref (pk ((u3 >>> ((4 : Int32) &&& 31)) &&& (3 : Int32)) a_Join_ROUND a_BEVEL a_MITER)), .val (.ref (pk ((u3 >>> ((6 : Int32) &&& 31)) &&& (3 : Int32)) a_CENTER a_RIGHT a_LEFT)), .val (.float fv6), .val (.float fv8), .val (.ref b9), .unset] [])) _
    refine XS.aload X13.here hx rfl (hb hby at_85) rfl rfl ?_
    show Steps p.tables e below (T13.setTop (mkF m 87 #[.val (.int u0), .val (.int u1), .val (.int u2), .val (.int u3), .val (.int u4), .val (.int u5), .val (.ref (pk (u3 &&& (3 : Int32)) a_STROKE a_FILL_AND_STROKE a_FILL)), .val (.ref (pk ((u3 >>> ((2 : Int32) &&& 31)) &&& (3 : Int32)) a_Cap_ROUND a_SQUARE a_BUTT)), .val (.ref (pk ((u3 >>> ((4 : Int32) &&& 31)) &&& (3 : Int32)) a_Join_ROUND a_BEVEL a_MITER)), .val (.ref (pk ((u3 >>> ((6 : Int32) &&& 31)) &&& (3 : Int32)) a_CENTER a_RIGHT a_LEFT)), .val (.float fv6), .val (.float fv8), .val (.ref b9), .unset] [(.ref b9)])) _
    refine XS.aload X13.here hx rfl (hb hby at_87) rfl rfl ?_
    show Steps p.tables e below (T13.setTop (mkF m 89 #[.val (.int u0), .val (.int u1), .val (.int u2), .val (.int u3), .val (.int u4), .val (.int u5), .val (.ref (pk (u3 &&& (3 : Int32)) a_STROKE a_FILL_AND_STROKE a_FILL)), .val (.ref (pk ((u3 >>> ((2 : Int32) &&& 31)) &&& (3 : Int32)) a_Cap_ROUND a_SQUARE a_BUTT)), .val (.ref (pk ((u3 >>> ((4 : Int32) &&& 31)) &&& (3 : Int32)) a_Join_ROUND a_BEVEL a_MITER)), .val (.ref (pk ((u3 >>> ((6 : Int32) &&& 31)) &&& (3 : Int32)) a_CENTER a_RIGHT a_LEFT)), .val (.float fv6), .val (.float fv8), .val (.ref b9), .unset] [(.ref (pk ((u3 >>> ((2 : Int32) &&& 31)) &&& (3 : Int32)) a_Cap_ROUND a_SQUARE a_BUTT)), (.ref b9)])) _
    refine st14.trans ?_
    show Steps p.tables e below (T14.setTop (mkF m 92 #[.val (.int u0), .val (.int u1), .val (.int u2), .val (.int u3), .val (.int u4), .val (.int u5), .val (.ref (pk (u3 &&& (3 : Int32)) a_STROKE a_FILL_AND_STROKE a_FILL)), .val (.ref (pk ((u3 >>> ((2 : Int32) &&& 31)) &&& (3 : Int32)) a_Cap_ROUND a_SQUARE a_BUTT)), .val (.ref (pk ((u3 >>> ((4 : Int32) &&& 31)) &&& (3 : Int32)) a_Join_ROUND a_BEVEL a_MITER)), .val (.ref (pk ((u3 >>> ((6 : Int32) &&& 31)) &&& (3 : Int32)) a_CENTER a_RIGHT a_LEFT)), .val (.float fv6), .val (.float fv8), .val (.ref b9), .unset] [])) _
    refine XS.aload X14.here hx rfl (hb hby at_92) rfl rfl ?_
    show Steps p.tables e below (T14.setTop (mkF m 94 #[.val (.int u0), .val (.int u1), .val (.int u2), .val (.int u3), .val (.int u4), .val (.int u5), .val (.ref (pk (u3 &&& (3 : Int32)) a_STROKE a_FILL_AND_STROKE a_FILL)), .val (.ref (pk ((u3 >>> ((2 : Int32) &&& 31)) &&& (3 : Int32)) a_Cap_ROUND a_SQUARE a_BUTT)), .val (.ref (pk ((u3 >>> ((4 : Int32) &&& 31)) &&& (3 : Int32)) a_Join_ROUND a_BEVEL a_MITER)), .val (.ref (pk ((u3 >>> ((6 : Int32) &&& 31)) &&& (3 : Int32)) a_CENTER a_RIGHT a_LEFT)), .val (.float fv6), .val (.float fv8), .val (.ref b9), .unset] [(.ref b9)])) _
    refine XS.aload X14.here hx rfl (hb hby at_94) rfl rfl ?_
    show Steps p.tables e below (T14.setTop (mkF m 96 #[.val (.int u0), .val (.int u1), .val (.int u2), .val (.int u3), .val (.int u4), .val (.int u5), .val (.ref (pk (u3 &&& (3 : Int32)) a_STROKE a_FILL_AND_STROKE a_FILL)), .val (.ref (pk ((u3 >>> ((2 : Int32) &&& 31)) &&& (3 : Int32)) a_Cap_ROUND a_SQUARE a_BUTT)), .val (.ref (pk ((u3 >>> ((4 : Int32) &&& 31)) &&& (3 : Int32)) a_Join_ROUND a_BEVEL a_MITER)), .val (.ref (pk ((u3 >>> ((6 : Int32) &&& 31)) &&& (3 : Int32)) a_CENTER a_RIGHT a_LEFT)), .val (.float fv6), .val (.float fv8), .val (.ref b9), .unset] [(.ref (pk ((u3 >>> ((4 : Int32) &&& 31)) &&& (3 : Int32)) a_Join_ROUND a_BEVEL a_MITER)), (.ref b9)])) _
    refine st15.trans ?_
    show Steps p.tables e below (T15.setTop (mkF m 99 #[.val (.int u0), .val (.int u1), .val (.int u2), .val (.int u3), .val (.int u4), .val (.int u5), .val (.ref (pk (u3 &&& (3 : Int32)) a_STROKE a_FILL_AND_STROKE a_FILL)), .val (.ref (pk ((u3 >>> ((2 : Int32) &&& 31)) &&& (3 : Int32)) a_Cap_ROUND a_SQUARE a_BUTT)), .val (.ref (pk ((u3 >>> ((4 : Int32) &&& 31)) &&& (3 : Int32)) a_Join_ROUND a_BEVEL a_MITER)), .val (.ref (pk ((u3 >>> ((6 : Int32) &&& 31)) &&& (3 : Int32)) a_CENTER a_RIGHT a_LEFT)), .val (.float fv6), .val (.float fv8), .val (.ref b9), .unset] [])) _
    refine XS.aload X15.here hx rfl (hb hby at_99) rfl rfl ?_
    show Steps p.tables e below (T15.setTop (mkF m 101 #[.val (.int u0), .val (.int u1), .val (.int u2), .val (.int u3), .val (.int u4), .val (.int u5), .val (.ref (pk (u3 &&& (3 : Int32)) a_STROKE a_FILL_AND_STROKE a_FILL)), .val (.ref (pk ((u3 >>> ((2 : Int32) &&& 31)) &&& (3 : Int32)) a_Cap_ROUND a_SQUARE a_BUTT)), .val (.ref (pk ((u3 >>> ((4 : Int32) &&& 31)) &&& (3 : Int32)) a_Join_ROUND a_BEVEL a_MITER)), .val (.ref (pk ((u3 >>> ((6 : Int32) &&& 31)) &&& (3 : Int32)) a_CENTER a_RIGHT a_LEFT)), .val (.float fv6), .val (.float fv8), .val (.ref b9), .unset] [(.ref b9)])) _
    refine XS.fload X15.here hx rfl (hb hby at_101) rfl ?_
    show Steps p.tables e below (T15.setTop (mkF m 103 #[.val (.int u0), .val (.int u1), .val (.int u2), .val (.int u3), .val (.int u4), .val (.int u5), .val (.ref (pk (u3 &&& (3 : Int32)) a_STROKE a_FILL_AND_STROKE a_FILL)), .val (.ref (pk ((u3 >>> ((2 : Int32) &&& 31)) &&& (3 : Int32)) a_Cap_ROUND a_SQUARE a_BUTT)), .val (.ref (pk ((u3 >>> ((4 : Int32) &&& 31)) &&& (3 : Int32)) a_Join_ROUND a_BEVEL a_MITER)), .val (.ref (pk ((u3 >>> ((6 : Int32) &&& 31)) &&& (3 : Int32)) a_CENTER a_RIGHT a_LEFT)), .val (.float fv6), .val (.float fv8), .val (.ref b9), .unset] [(.float fv8), (.ref b9)])) _
    refine st16.trans ?_
    show Steps p.tables e below (T16.setTop (mkF m 106 #[.val (.int u0), .val (.int u1), .val (.int u2), .val (.int u3), .val (.int u4), .val (.int u5), .val (.ref (pk (u3 &&& (3 : Int32)) a_STROKE a_FILL_AND_STROKE a_FILL)), .val (.ref (pk ((u3 >>> ((2 : Int32) &&& 31)) &&& (3 : Int32)) a_Cap_ROUND a_SQUARE a_BUTT)), .val (.ref (pk ((u3 >>> ((4 : Int32) &&& 31)) &&& (3 : Int32)) a_Join_ROUND a_BEVEL a_MITER)), .val (.ref (pk ((u3 >>> ((6 : Int32) &&& 31)) &&& (3 : Int32)) a_CENTER a_RIGHT a_LEFT)), .val (.float fv6), .val (.float fv8), .val (.ref b9), .unset] [])) _
    refine XS.aload X16.here hx rfl (hb hby at_106) rfl rfl ?_
    show Steps p.tables e below (T16.setTop (mkF m 108 #[.val (.int u0), .val (.int u1), .val (.int u2), .val (.int u3), .val (.int u4), .val (.int u5), .val (.ref (pk (u3 &&& (3 : Int32)) a_STROKE a_FILL_AND_STROKE a_FILL)), .val (.ref (pk ((u3 >>> ((2 : Int32) &&& 31)) &&& (3 : Int32)) a_Cap_ROUND a_SQUARE a_BUTT)), .val (.ref (pk ((u3 >>> ((4 : Int32) &&& 31)) &&& (3 : Int32)) a_Join_ROUND a_BEVEL a_MITER)), .val (.ref (pk ((u3 >>> ((6 : Int32) &&& 31)) &&& (3 : Int32)) a_CENTER a_RIGHT a_LEFT)), .val (.float fv6), .val (.float fv8), .val (.ref b9), .unset] [(.ref b9)])) _
    refine XS.aload X16.here hx rfl (hb hby at_108) rfl rfl ?_
    show Steps p.tables e below (T16.setTop (mkF m 110 #[.val (.int u0), .val (.int u1), .val (.int u2), .val (.int u3), .val (.int u4), .val (.int u5), .val (.ref (pk (u3 &&& (3 : Int32)) a_STROKE a_FILL_AND_STROKE a_FILL)), .val (.ref (pk ((u3 >>> ((2 : Int32) &&& 31)) &&& (3 : Int32)) a_Cap_ROUND a_SQUARE a_BUTT)), .val (.ref (pk ((u3 >>> ((4 : Int32) &&& 31)) &&& (3 : Int32)) a_Join_ROUND a_BEVEL a_MITER)), .val (.ref (pk ((u3 >>> ((6 : Int32) &&& 31)) &&& (3 : Int32)) a_CENTER a_RIGHT a_LEFT)), .val (.float fv6), .val (.float fv8), .val (.ref b9), .unset] [(.ref (pk ((u3 >>> ((6 : Int32) &&& 31)) &&& (3 : Int32)) a_CENTER a_RIGHT a_LEFT)), (.ref b9)])) _
    refine st17.trans ?_
    show Steps p.tables e below (T17.setTop (mkF m 113 #[.val (.int u0), .val (.int u1), .val (.int u2), .val (.int u3), .val (.int u4), .val (.int u5), .val (.ref (pk (u3 &&& (3 : Int32)) a_STROKE a_FILL_AND_STROKE a_FILL)), .val (.ref (pk ((u3 >>> ((2 : Int32) &&& 31)) &&& (3 : Int32)) a_Cap_ROUND a_SQUARE a_BUTT)), .val (.ref (pk ((u3 >>> ((4 : Int32) &&& 31)) &&& (3 : Int32)) a_Join_ROUND a_BEVEL a_MITER)), .val (.ref (pk ((u3 >>> ((6 : Int32) &&& 31)) &&& (3 : Int32)) a_CENTER a_RIGHT a_LEFT)), .val (.float fv6), .val (.float fv8), .val (.ref b9), .unset] [])) _
    refine st18 _ ?_
    show Steps p.tables e below (T18.setTop (mkF m 116 #[.val (.int u0), .val (.int u1), .val (.int u2), .val (.int u3), .val (.int u4), .val (.int u5), .val (.ref (pk (u3 &&& (3 : Int32)) a_STROKE a_FILL_AND_STROKE a_FILL)), .val (.ref (pk ((u3 >>> ((2 : Int32) &&& 31)) &&& (3 : Int32)) a_Cap_ROUND a_SQUARE a_BUTT)), .val (.ref (pk ((u3 >>> ((4 : Int32) &&& 31)) &&& (3 : Int32)) a_Join_ROUND a_BEVEL a_MITER)), .val (.ref (pk ((u3 >>> ((6 : Int32) &&& 31)) &&& (3 : Int32)) a_CENTER a_RIGHT a_LEFT)), .val (.float fv6), .val (.float fv8), .val (.ref b9), .unset] [(.ref b18)])) _
    refine XS.dup X18.here hx rfl (hb hby at_116) rfl rfl ?_
    show Steps p.tables e below (T18.setTop (mkF m 117 #[.val (.int u0), .val (.int u1), .val (.int u2), .val (.int u3), .val (.int u4), .val (.int u5), .val (.ref (pk (u3 &&& (3 : Int32)) a_STROKE a_FILL_AND_STROKE a_FILL)), .val (.ref (pk ((u3 >>> ((2 : Int32) &&& 31)) &&& (3 : Int32)) a_Cap_ROUND a_SQUARE a_BUTT)), .val (.ref (pk ((u3 >>> ((4 : Int32) &&& 31)) &&& (3 : Int32)) a_Join_ROUND a_BEVEL a_MITER)), .val (.ref (pk ((u3 >>> ((6 : Int32) &&& 31)) &&& (3 : Int32)) a_CENTER a_RIGHT a_LEFT)), .val (.float fv6), .val (.float fv8), .val (.ref b9), .unset] [(.ref b18), (.ref b18)])) _
    refine XS.iloadN X18.here hx rfl (hb hby at_117) rfl ?_
    show Steps p.tables e below (T18.setTop (mkF m 118 #[.val (.int u0), .val (.int u1), .val (.int u2), .val (.int u3), .val (.int u4), .val (.int u5), .val (.ref (pk (u3 &&& (3 : Int32)) a_STROKE a_FILL_AND_STROKE a_FILL)), .val (.ref (pk ((u3 >>> ((2 : Int32) &&& 31)) &&& (3 : Int32)) a_Cap_ROUND a_SQUARE a_BUTT)), .val (.ref (pk ((u3 >>> ((4 : Int32) &&& 31)) &&& (3 : Int32)) a_Join_ROUND a_BEVEL a_MITER)), .val (.ref (pk ((u3 >>> ((6 : Int32) &&& 31)) &&& (3 : Int32)) a_CENTER a_RIGHT a_LEFT)), .val (.float fv6), .val (.float fv8), .val (.ref b9), .unset] [(.int u1), (.ref b18), (.ref b18)])) _
    refine st19.trans ?_
    show Steps p.tables e below (T19.setTop (mkF m 121 #[.val (.int u0), .val (.int u1), .val (.int u2), .val (.int u3), .val (.int u4), .val (.int u5), .val (.ref (pk (u3 &&& (3 : Int32)) a_STROKE a_FILL_AND_STROKE a_FILL)), .val (.ref (pk ((u3 >>> ((2 : Int32) &&& 31)) &&& (3 : Int32)) a_Cap_ROUND a_SQUARE a_BUTT)), .val (.ref (pk ((u3 >>> ((4 : Int32) &&& 31)) &&& (3 : Int32)) a_Join_ROUND a_BEVEL a_MITER)), .val (.ref (pk ((u3 >>> ((6 : Int32) &&& 31)) &&& (3 : Int32)) a_CENTER a_RIGHT a_LEFT)), .val (.float fv6), .val (.float fv8), .val (.ref b9), .unset] [(.ref b18)])) _
    refine XS.astore X19.here hx rfl (hb hby at_121) rfl rfl (l' := #[.val (.int u0), .val (.int u1), .val (.int u2), .val (.int u3), .val (.int u4), .val (.int u5), .val (.ref (pk (u3 &&& (3 : Int32)) a_STROKE a_FILL_AND_STROKE a_FILL)), .val (.ref (pk ((u3 >>> ((2 : Int32) &&& 31)) &&& (3 : Int32)) a_Cap_ROUND a_SQUARE a_BUTT)), .val (.ref (pk ((u3 >>> ((4 : Int32) &&& 31)) &&& (3 : Int32)) a_Join_ROUND a_BEVEL a_MITER)), .val (.ref (pk ((u3 >>> ((6 : Int32) &&& 31)) &&& (3 : Int32)) a_CENTER a_RIGHT a_LEFT)), .val (.float fv6), .val (.float fv8), .val (.ref b9), .val (.ref b18)]) rfl ?_
    show Steps p.tables e below (T19.setTop (mkF m 123 #[.val (.int u0), .val (.int u1), .val (.int u2), .val (.int u3), .val (.int u4), .val (.int u5), .val (.ref (pk (u3 &&& (3 : Int32)) a_STROKE a_FILL_AND_STROKE a_FILL)), .val (.ref (pk ((u3 >>> ((2 : Int32) &&& 31)) &&& (3 : Int32)) a_Cap_ROUND a_SQUARE a_BUTT)), .val (.ref (pk ((u3 >>> ((4 : Int32) &&& 31)) &&& (3 : Int32)) a_Join_ROUND a_BEVEL a_MITER)), .val (.ref (pk ((u3 >>> ((6 : Int32) &&& 31)) &&& (3 : Int32)) a_CENTER a_RIGHT a_LEFT)), .val (.float fv6), .val (.float fv8), .val (.ref b9), .val (.ref b18)] [])) _
    refine XS.aload X19.here hx rfl (hb hby at_123) rfl rfl ?_
    show Steps p.tables e below (T19.setTop (mkF m 125 #[.val (.int u0), .val (.int u1), .val (.int u2), .val (.int u3), .val (.int u4), .val (.int u5), .val (.ref (pk (u3 &&& (3 : Int32)) a_STROKE a_FILL_AND_STROKE a_FILL)), .val (.ref (pk ((u3 >>> ((2 : Int32) &&& 31)) &&& (3 : Int32)) a_Cap_ROUND a_SQUARE a_BUTT)), .val (.ref (pk ((u3 >>> ((4 : Int32) &&& 31)) &&& (3 : Int32)) a_Join_ROUND a_BEVEL a_MITER)), .val (.ref (pk ((u3 >>> ((6 : Int32) &&& 31)) &&& (3 : Int32)) a_CENTER a_RIGHT a_LEFT)), .val (.float fv6), .val (.float fv8), .val (.ref b9), .val (.ref b18)] [(.ref b18)])) _
    refine XS.aload X19.here hx rfl (hb hby at_125) rfl rfl ?_
    show Steps p.tables e below (T19.setTop (mkF m 127 #[.val (.int u0), .val (.int u1), .val (.int u2), .val (.int u3), .val (.int u4), .val (.int u5), .val (.ref (pk (u3 &&& (3 : Int32)) a_STROKE a_FILL_AND_STROKE a_FILL)), .val (.ref (pk ((u3 >>> ((2 : Int32) &&& 31)) &&& (3 : Int32)) a_Cap_ROUND a_SQUARE a_BUTT)), .val (.ref (pk ((u3 >>> ((4 : Int32) &&& 31)) &&& (3 : Int32)) a_Join_ROUND a_BEVEL a_MITER)), .val (.ref (pk ((u3 >>> ((6 : Int32) &&& 31)) &&& (3 : Int32)) a_CENTER a_RIGHT a_LEFT)), .val (.float fv6), .val (.float fv8), .val (.ref b9), .val (.ref b18)] [(.ref b9), (.ref b18)])) _
    refine st20.trans ?_
    show Steps p.tables e below (T20.setTop (mkF m 130 #[.val (.int u0), .val (.int u1), .val (.int u2), .val (.int u3), .val (.int u4), .val (.int u5), .val (.ref (pk (u3 &&& (3 : Int32)) a_STROKE a_FILL_AND_STROKE a_FILL)), .val (.ref (pk ((u3 >>> ((2 : Int32) &&& 31)) &&& (3 : Int32)) a_Cap_ROUND a_SQUARE a_BUTT)), .val (.ref (pk ((u3 >>> ((4 : Int32) &&& 31)) &&& (3 : Int32)) a_Join_ROUND a_BEVEL a_MITER)), .val (.ref (pk ((u3 >>> ((6 : Int32) &&& 31)) &&& (3 : Int32)) a_CENTER a_RIGHT a_LEFT)), .val (.float fv6), .val (.float fv8), .val (.ref b9), .val (.ref b18)] [])) _
    refine XS.aload X20.here hx rfl (hb hby at_130) rfl rfl ?_
    show Steps p.tables e below (T20.setTop (mkF m 132 #[.val (.int u0), .val (.int u1), .val (.int u2), .val (.int u3), .val (.int u4), .val (.int u5), .val (.ref (pk (u3 &&& (3 : Int32)) a_STROKE a_FILL_AND_STROKE a_FILL)), .val (.ref (pk ((u3 >>> ((2 : Int32) &&& 31)) &&& (3 : Int32)) a_Cap_ROUND a_SQUARE a_BUTT)), .val (.ref (pk ((u3 >>> ((4 : Int32) &&& 31)) &&& (3 : Int32)) a_Join_ROUND a_BEVEL a_MITER)), .val (.ref (pk ((u3 >>> ((6 : Int32) &&& 31)) &&& (3 : Int32)) a_CENTER a_RIGHT a_LEFT)), .val (.float fv6), .val (.float fv8), .val (.ref b9), .val (.ref b18)] [(.ref b18)])) _
    refine st21.trans ?_
    show Steps p.tables e below (T21.setTop (mkF m 135 #[.val (.int u0), .val (.int u1), .val (.int u2), .val (.int u3), .val (.int u4), .val (.int u5), .val (.ref (pk (u3 &&& (3 : Int32)) a_STROKE a_FILL_AND_STROKE a_FILL)), .val (.ref (pk ((u3 >>> ((2 : Int32) &&& 31)) &&& (3 : Int32)) a_Cap_ROUND a_SQUARE a_BUTT)), .val (.ref (pk ((u3 >>> ((4 : Int32) &&& 31)) &&& (3 : Int32)) a_Join_ROUND a_BEVEL a_MITER)), .val (.ref (pk ((u3 >>> ((6 : Int32) &&& 31)) &&& (3 : Int32)) a_CENTER a_RIGHT a_LEFT)), .val (.float fv6), .val (.float fv8), .val (.ref b9), .val (.ref b18)] [(.int u0)])) _
    refine XS.iloadN X21.here hx rfl (hb hby at_135) rfl ?_
    show Steps p.tables e below (T21.setTop (mkF m 136 #[.val (.int u0), .val (.int u1), .val (.int u2), .val (.int u3), .val (.int u4), .val (.int u5), .val (.ref (pk (u3 &&& (3 : Int32)) a_STROKE a_FILL_AND_STROKE a_FILL)), .val (.ref (pk ((u3 >>> ((2 : Int32) &&& 31)) &&& (3 : Int32)) a_Cap_ROUND a_SQUARE a_BUTT)), .val (.ref (pk ((u3 >>> ((4 : Int32) &&& 31)) &&& (3 : Int32)) a_Join_ROUND a_BEVEL a_MITER)), .val (.ref (pk ((u3 >>> ((6 : Int32) &&& 31)) &&& (3 : Int32)) a_CENTER a_RIGHT a_LEFT)), .val (.float fv6), .val (.float fv8), .val (.ref b9), .val (.ref b18)] [(.int u0), (.int u0)])) _
    refine XS.icmpNo X21.here hx rfl (hb hby at_136) rfl (teq rfl).2 ?_
    show Steps p.tables e below (T21.setTop (mkF m 139 #[.val (.int u0), .val (.int u1), .val (.int u2), .val (.int u3), .val (.int u4), .val (.int u5), .val (.ref (pk (u3 &&& (3 : Int32)) a_STROKE a_FILL_AND_STROKE a_FILL)), .val (.ref (pk ((u3 >>> ((2 : Int32) &&& 31)) &&& (3 : Int32)) a_Cap_ROUND a_SQUARE a_BUTT)), .val (.ref (pk ((u3 >>> ((4 : Int32) &&& 31)) &&& (3 : Int32)) a_Join_ROUND a_BEVEL a_MITER)), .val (.ref (pk ((u3 >>> ((6 : Int32) &&& 31)) &&& (3 : Int32)) a_CENTER a_RIGHT a_LEFT)), .val (.float fv6), .val (.float fv8), .val (.ref b9), .val (.ref b18)] [])) _
    refine XS.aload X21.here hx rfl (hb hby at_139) rfl rfl ?_
    show Steps p.tables e below (T21.setTop (mkF m 141 #[.val (.int u0), .val (.int u1), .val (.int u2), .val (.int u3), .val (.int u4), .val (.int u5), .val (.ref (pk (u3 &&& (3 : Int32)) a_STROKE a_FILL_AND_STROKE a_FILL)), .val (.ref (pk ((u3 >>> ((2 : Int32) &&& 31)) &&& (3 : Int32)) a_Cap_ROUND a_SQUARE a_BUTT)), .val (.ref (pk ((u3 >>> ((4 : Int32) &&& 31)) &&& (3 : Int32)) a_Join_ROUND a_BEVEL a_MITER)), .val (.ref (pk ((u3 >>> ((6 : Int32) &&& 31)) &&& (3 : Int32)) a_CENTER a_RIGHT a_LEFT)), .val (.float fv6), .val (.float fv8), .val (.ref b9), .val (.ref b18)] [(.ref b18)])) _
    refine st22.trans ?_
    show Steps p.tables e below (T22.setTop (mkF m 144 #[.val (.int u0), .val (.int u1), .val (.int u2), .val (.int u3), .val (.int u4), .val (.int u5), .val (.ref (pk (u3 &&& (3 : Int32)) a_STROKE a_FILL_AND_STROKE a_FILL)), .val (.ref (pk ((u3 >>> ((2 : Int32) &&& 31)) &&& (3 : Int32)) a_Cap_ROUND a_SQUARE a_BUTT)), .val (.ref (pk ((u3 >>> ((4 : Int32) &&& 31)) &&& (3 : Int32)) a_Join_ROUND a_BEVEL a_MITER)), .val (.ref (pk ((u3 >>> ((6 : Int32) &&& 31)) &&& (3 : Int32)) a_CENTER a_RIGHT a_LEFT)), .val (.float fv6), .val (.float fv8), .val (.ref b9), .val (.ref b18)] [(.int u2)])) _
    refine XS.iloadN X22.here hx rfl (hb hby at_144) rfl ?_
    show Steps p.tables e below (T22.setTop (mkF m 145 #[.val (.int u0), .val (.int u1), .val (.int u2), .val (.int u3), .val (.int u4), .val (.int u5), .val (.ref (pk (u3 &&& (3 : Int32)) a_STROKE a_FILL_AND_STROKE a_FILL)), .val (.ref (pk ((u3 >>> ((2 : Int32) &&& 31)) &&& (3 : Int32)) a_Cap_ROUND a_SQUARE a_BUTT)), .val (.ref (pk ((u3 >>> ((4 : Int32) &&& 31)) &&& (3 : Int32)) a_Join_ROUND a_BEVEL a_MITER)), .val (.ref (pk ((u3 >>> ((6 : Int32) &&& 31)) &&& (3 : Int32)) a_CENTER a_RIGHT a_LEFT)), .val (.float fv6), .val (.float fv8), .val (.ref b9), .val (.ref b18)] [(.int u2), (.int u2)])) _
    refine XS.icmpNo X22.here hx rfl (hb hby at_145) rfl (teq rfl).2 ?_
    show Steps p.tables e below (T22.setTop (mkF m 148 #[.val (.int u0), .val (.int u1), .val (.int u2), .val (.int u3), .val (.int u4), .val (.int u5), .val (.ref (pk (u3 &&& (3 : Int32)) a_STROKE a_FILL_AND_STROKE a_FILL)), .val (.ref (pk ((u3 >>> ((2 : Int32) &&& 31)) &&& (3 : Int32)) a_Cap_ROUND a_SQUARE a_BUTT)), .val (.ref (pk ((u3 >>> ((4 : Int32) &&& 31)) &&& (3 : Int32)) a_Join_ROUND a_BEVEL a_MITER)), .val (.ref (pk ((u3 >>> ((6 : Int32) &&& 31)) &&& (3 : Int32)) a_CENTER a_RIGHT a_LEFT)), .val (.float fv6), .val (.float fv8), .val (.ref b9), .val (.ref b18)] [])) _
    refine XS.aload X22.here hx rfl (hb hby at_148) rfl rfl ?_
    show Steps p.tables e below (T22.setTop (mkF m 150 #[.val (.int u0), .val (.int u1), .val (.int u2), .val (.int u3), .val (.int u4), .val (.int u5), .val (.ref (pk (u3 &&& (3 : Int32)) a_STROKE a_FILL_AND_STROKE a_FILL)), .val (.ref (pk ((u3 >>> ((2 : Int32) &&& 31)) &&& (3 : Int32)) a_Cap_ROUND a_SQUARE a_BUTT)), .val (.ref (pk ((u3 >>> ((4 : Int32) &&& 31)) &&& (3 : Int32)) a_Join_ROUND a_BEVEL a_MITER)), .val (.ref (pk ((u3 >>> ((6 : Int32) &&& 31)) &&& (3 : Int32)) a_CENTER a_RIGHT a_LEFT)), .val (.float fv6), .val (.float fv8), .val (.ref b9), .val (.ref b18)] [(.ref b18)])) _
    refine st23.trans ?_
    show Steps p.tables e below (T23.setTop (mkF m 153 #[.val (.int u0), .val (.int u1), .val (.int u2), .val (.int u3), .val (.int u4), .val (.int u5), .val (.ref (pk (u3 &&& (3 : Int32)) a_STROKE a_FILL_AND_STROKE a_FILL)), .val (.ref (pk ((u3 >>> ((2 : Int32) &&& 31)) &&& (3 : Int32)) a_Cap_ROUND a_SQUARE a_BUTT)), .val (.ref (pk ((u3 >>> ((4 : Int32) &&& 31)) &&& (3 : Int32)) a_Join_ROUND a_BEVEL a_MITER)), .val (.ref (pk ((u3 >>> ((6 : Int32) &&& 31)) &&& (3 : Int32)) a_CENTER a_RIGHT a_LEFT)), .val (.float fv6), .val (.float fv8), .val (.ref b9), .val (.ref b18)] [(.ref (pk (u3 &&& (3 : Int32)) a_STROKE a_FILL_AND_STROKE a_FILL))])) _
    refine XS.aload X23.here hx rfl (hb hby at_153) rfl rfl ?_
    show Steps p.tables e below (T23.setTop (mkF m 155 #[.val (.int u0), .val (.int u1), .val (.int u2), .val (.int u3), .val (.int u4), .val (.int u5), .val (.ref (pk (u3 &&& (3 : Int32)) a_STROKE a_FILL_AND_STROKE a_FILL)), .val (.ref (pk ((u3 >>> ((2 : Int32) &&& 31)) &&& (3 : Int32)) a_Cap_ROUND a_SQUARE a_BUTT)), .val (.ref (pk ((u3 >>> ((4 : Int32) &&& 31)) &&& (3 : Int32)) a_Join_ROUND a_BEVEL a_MITER)), .val (.ref (pk ((u3 >>> ((6 : Int32) &&& 31)) &&& (3 : Int32)) a_CENTER a_RIGHT a_LEFT)), .val (.float fv6), .val (.float fv8), .val (.ref b9), .val (.ref b18)] [(.ref (pk (u3 &&& (3 : Int32)) a_STROKE a_FILL_AND_STROKE a_FILL)), (.ref (pk (u3 &&& (3 : Int32)) a_STROKE a_FILL_AND_STROKE a_FILL))])) _
    refine Jvm.RoadKit.acmp (g := (mkF m 155 #[.val (.int u0), .val (.int u1), .val (.int u2), .val (.int u3), .val (.int u4), .val (.int u5), .val (.ref (pk (u3 &&& (3 : Int32)) a_STROKE a_FILL_AND_STROKE a_FILL)), .val (.ref (pk ((u3 >>> ((2 : Int32) &&& 31)) &&& (3 : Int32)) a_Cap_ROUND a_SQUARE a_BUTT)), .val (.ref (pk ((u3 >>> ((4 : Int32) &&& 31)) &&& (3 : Int32)) a_Join_ROUND a_BEVEL a_MITER)), .val (.ref (pk ((u3 >>> ((6 : Int32) &&& 31)) &&& (3 : Int32)) a_CENTER a_RIGHT a_LEFT)), .val (.float fv6), .val (.float fv8), .val (.ref b9), .val (.ref b18)] [(.ref (pk (u3 &&& (3 : Int32)) a_STROKE a_FILL_AND_STROKE a_FILL)), (.ref (pk (u3 &&& (3 : Int32)) a_STROKE a_FILL_AND_STROKE a_FILL))])) X23 hx rfl rfl rfl (pc0 := 155) (pc' := 158) (same := true) rfl (hb hby at_155) rfl (decide_eq_true rfl) (by decide) (by decide) ?_
    show Steps p.tables e below (T23.setTop (mkF m 158 #[.val (.int u0), .val (.int u1), .val (.int u2), .val (.int u3), .val (.int u4), .val (.int u5), .val (.ref (pk (u3 &&& (3 : Int32)) a_STROKE a_FILL_AND_STROKE a_FILL)), .val (.ref (pk ((u3 >>> ((2 : Int32) &&& 31)) &&& (3 : Int32)) a_Cap_ROUND a_SQUARE a_BUTT)), .val (.ref (pk ((u3 >>> ((4 : Int32) &&& 31)) &&& (3 : Int32)) a_Join_ROUND a_BEVEL a_MITER)), .val (.ref (pk ((u3 >>> ((6 : Int32) &&& 31)) &&& (3 : Int32)) a_CENTER a_RIGHT a_LEFT)), .val (.float fv6), .val (.float fv8), .val (.ref b9), .val (.ref b18)] [])) _
    refine XS.aload X23.here hx rfl (hb hby at_158) rfl rfl ?_
    show Steps p.tables e below (T23.setTop (mkF m 160 #[.val (.int u0), .val (.int u1), .val (.int u2), .val (.int u3), .val (.int u4), .val (.int u5), .val (.ref (pk (u3 &&& (3 : Int32)) a_STROKE a_FILL_AND_STROKE a_FILL)), .val (.ref (pk ((u3 >>> ((2 : Int32) &&& 31)) &&& (3 : Int32)) a_Cap_ROUND a_SQUARE a_BUTT)), .val (.ref (pk ((u3 >>> ((4 : Int32) &&& 31)) &&& (3 : Int32)) a_Join_ROUND a_BEVEL a_MITER)), .val (.ref (pk ((u3 >>> ((6 : Int32) &&& 31)) &&& (3 : Int32)) a_CENTER a_RIGHT a_LEFT)), .val (.float fv6), .val (.float fv8), .val (.ref b9), .val (.ref b18)] [(.ref b18)])) _
    refine st24.trans ?_
    show Steps p.tables e below (T24.setTop (mkF m 163 #[.val (.int u0), .val (.int u1), .val (.int u2), .val (.int u3), .val (.int u4), .val (.int u5), .val (.ref (pk (u3 &&& (3 : Int32)) a_STROKE a_FILL_AND_STROKE a_FILL)), .val (.ref (pk ((u3 >>> ((2 : Int32) &&& 31)) &&& (3 : Int32)) a_Cap_ROUND a_SQUARE a_BUTT)), .val (.ref (pk ((u3 >>> ((4 : Int32) &&& 31)) &&& (3 : Int32)) a_Join_ROUND a_BEVEL a_MITER)), .val (.ref (pk ((u3 >>> ((6 : Int32) &&& 31)) &&& (3 : Int32)) a_CENTER a_RIGHT a_LEFT)), .val (.float fv6), .val (.float fv8), .val (.ref b9), .val (.ref b18)] [(.float fv6)])) _
    refine XS.fload X24.here hx rfl (hb hby at_163) rfl ?_
    show Steps p.tables e below (T24.setTop (mkF m 165 #[.val (.int u0), .val (.int u1), .val (.int u2), .val (.int u3), .val (.int u4), .val (.int u5), .val (.ref (pk (u3 &&& (3 : Int32)) a_STROKE a_FILL_AND_STROKE a_FILL)), .val (.ref (pk ((u3 >>> ((2 : Int32) &&& 31)) &&& (3 : Int32)) a_Cap_ROUND a_SQUARE a_BUTT)), .val (.ref (pk ((u3 >>> ((4 : Int32) &&& 31)) &&& (3 : Int32)) a_Join_ROUND a_BEVEL a_MITER)), .val (.ref (pk ((u3 >>> ((6 : Int32) &&& 31)) &&& (3 : Int32)) a_CENTER a_RIGHT a_LEFT)), .val (.float fv6), .val (.float fv8), .val (.ref b9), .val (.ref b18)] [(.float fv6), (.float fv6)])) _
    refine XS.fcmpS X24.here hx rfl (hb hby at_165) rfl (v := (cmpValue (FP.fcmp fv6 fv6) .l)) rfl ?_
    show Steps p.tables e below (T24.setTop (mkF m 166 #[.val (.int u0), .val (.int u1), .val (.int u2), .val (.int u3), .val (.int u4), .val (.int u5), .val (.ref (pk (u3 &&& (3 : Int32)) a_STROKE a_FILL_AND_STROKE a_FILL)), .val (.ref (pk ((u3 >>> ((2 : Int32) &&& 31)) &&& (3 : Int32)) a_Cap_ROUND a_SQUARE a_BUTT)), .val (.ref (pk ((u3 >>> ((4 : Int32) &&& 31)) &&& (3 : Int32)) a_Join_ROUND a_BEVEL a_MITER)), .val (.ref (pk ((u3 >>> ((6 : Int32) &&& 31)) &&& (3 : Int32)) a_CENTER a_RIGHT a_LEFT)), .val (.float fv6), .val (.float fv8), .val (.ref b9), .val (.ref b18)] [(.int (cmpValue (FP.fcmp fv6 fv6) .l))])) _
    refine XS.ifNo X24.here hx rfl (hb hby at_166) rfl ((if0 _ _).trans (teq (fcmpV_self (by rw [fe6]; exact (Jvm.Free.Fl.i2f_fin _).noNaN) _)).2) ?_
    show Steps p.tables e below (T24.setTop (mkF m 169 #[.val (.int u0), .val (.int u1), .val (.int u2), .val (.int u3), .val (.int u4), .val (.int u5), .val (.ref (pk (u3 &&& (3 : Int32)) a_STROKE a_FILL_AND_STROKE a_FILL)), .val (.ref (pk ((u3 >>> ((2 : Int32) &&& 31)) &&& (3 : Int32)) a_Cap_ROUND a_SQUARE a_BUTT)), .val (.ref (pk ((u3 >>> ((4 : Int32) &&& 31)) &&& (3 : Int32)) a_Join_ROUND a_BEVEL a_MITER)), .val (.ref (pk ((u3 >>> ((6 : Int32) &&& 31)) &&& (3 : Int32)) a_CENTER a_RIGHT a_LEFT)), .val (.float fv6), .val (.float fv8), .val (.ref b9), .val (.ref b18)] [])) _
    refine XS.aload X24.here hx rfl (hb hby at_169) rfl rfl ?_
    show Steps p.tables e below (T24.setTop (mkF m 171 #[.val (.int u0), .val (.int u1), .val (.int u2), .val (.int u3), .val (.int u4), .val (.int u5), .val (.ref (pk (u3 &&& (3 : Int32)) a_STROKE a_FILL_AND_STROKE a_FILL)), .val (.ref (pk ((u3 >>> ((2 : Int32) &&& 31)) &&& (3 : Int32)) a_Cap_ROUND a_SQUARE a_BUTT)), .val (.ref (pk ((u3 >>> ((4 : Int32) &&& 31)) &&& (3 : Int32)) a_Join_ROUND a_BEVEL a_MITER)), .val (.ref (pk ((u3 >>> ((6 : Int32) &&& 31)) &&& (3 : Int32)) a_CENTER a_RIGHT a_LEFT)), .val (.float fv6), .val (.float fv8), .val (.ref b9), .val (.ref b18)] [(.ref b18)])) _
    refine st25.trans ?_
    show Steps p.tables e below (T25.setTop (mkF m 174 #[.val (.int u0), .val (.int u1), .val (.int u2), .val (.int u3), .val (.int u4), .val (.int u5), .val (.ref (pk (u3 &&& (3 : Int32)) a_STROKE a_FILL_AND_STROKE a_FILL)), .val (.ref (pk ((u3 >>> ((2 : Int32) &&& 31)) &&& (3 : Int32)) a_Cap_ROUND a_SQUARE a_BUTT)), .val (.ref (pk ((u3 >>> ((4 : Int32) &&& 31)) &&& (3 : Int32)) a_Join_ROUND a_BEVEL a_MITER)), .val (.ref (pk ((u3 >>> ((6 : Int32) &&& 31)) &&& (3 : Int32)) a_CENTER a_RIGHT a_LEFT)), .val (.float fv6), .val (.float fv8), .val (.ref b9), .val (.ref b18)] [(.ref (pk ((u3 >>> ((2 : Int32) &&& 31)) &&& (3 : Int32)) a_Cap_ROUND a_SQUARE a_BUTT))])) _
    refine XS.aload X25.here hx rfl (hb hby at_174) rfl rfl ?_
    show Steps p.tables e below (T25.setTop (mkF m 176 #[.val (.int u0), .val (.int u1), .val (.int u2), .val (.int u3), .val (.int u4), .val (.int u5), .val (.ref (pk (u3 &&& (3 : Int32)) a_STROKE a_FILL_AND_STROKE a_FILL)), .val (.ref (pk ((u3 >>> ((2 : Int32) &&& 31)) &&& (3 : Int32)) a_Cap_ROUND a_SQUARE a_BUTT)), .val (.ref (pk ((u3 >>> ((4 : Int32) &&& 31)) &&& (3 : Int32)) a_Join_ROUND a_BEVEL a_MITER)), .val (.ref (pk ((u3 >>> ((6 : Int32) &&& 31)) &&& (3 : Int32)) a_CENTER a_RIGHT a_LEFT)), .val (.float fv6), .val (.float fv8), .val (.ref b9), .val (.ref b18)] [(.ref (pk ((u3 >>> ((2 : Int32) &&& 31)) &&& (3 : Int32)) a_Cap_ROUND a_SQUARE a_BUTT)), (.ref (pk ((u3 >>> ((2 : Int32) &&& 31)) &&& (3 : Int32)) a_Cap_ROUND a_SQUARE a_BUTT))])) _
    refine Jvm.RoadKit.acmp (g := (mkF m 176 #[.val (.int u0), .val (.int u1), .val (.int u2), .val (.int u3), .val (.int u4), .val (.int u5), .val (.ref (pk (u3 &&& (3 : Int32)) a_STROKE a_FILL_AND_STROKE a_FILL)), .val (.ref (pk ((u3 >>> ((2 : Int32) &&& 31)) &&& (3 : Int32)) a_Cap_ROUND a_SQUARE a_BUTT)), .val (.ref (pk ((u3 >>> ((4 : Int32) &&& 31)) &&& (3 : Int32)) a_Join_ROUND a_BEVEL a_MITER)), .val (.ref (pk ((u3 >>> ((6 : Int32) &&& 31)) &&& (3 : Int32)) a_CENTER a_RIGHT a_LEFT)), .val (.float fv6), .val (.float fv8), .val (.ref b9), .val (.ref b18)] [(.ref (pk ((u3 >>> ((2 : Int32) &&& 31)) &&& (3 : Int32)) a_Cap_ROUND a_SQUARE a_BUTT)), (.ref (pk ((u3 >>> ((2 : Int32) &&& 31)) &&& (3 : Int32)) a_Cap_ROUND a_SQUARE a_BUTT))])) X25 hx rfl rfl rfl (pc0 := 176) (pc' := 179) (same := true) rfl (hb hby at_176) rfl (decide_eq_true rfl) (by decide) (by decide) ?_
    show Steps p.tables e below (T25.setTop (mkF m 179 #[.val (.int u0), .val (.int u1), .val (.int u2), .val (.int u3), .val (.int u4), .val (.int u5), .val (.ref (pk (u3 &&& (3 : Int32)) a_STROKE a_FILL_AND_STROKE a_FILL)), .val (.ref (pk ((u3 >>> ((2 : Int32) &&& 31)) &&& (3 : Int32)) a_Cap_ROUND a_SQUARE a_BUTT)), .val (.ref (pk ((u3 >>> ((4 : Int32) &&& 31)) &&& (3 : Int32)) a_Join_ROUND a_BEVEL a_MITER)), .val (.ref (pk ((u3 >>> ((6 : Int32) &&& 31)) &&& (3 : Int32)) a_CENTER a_RIGHT a_LEFT)), .val (.float fv6), .val (.float fv8), .val (.ref b9), .val (.ref b18)] [])) _
    refine XS.aload X25.here hx rfl (hb hby at_179) rfl rfl ?_
    show Steps p.tables e below (T25.setTop (mkF m 181 #[.val (.int u0), .val (.int u1), .val (.int u2), .val (.int u3), .val (.int u4), .val (.int u5), .val (.ref (pk (u3 &&& (3 : Int32)) a_STROKE a_FILL_AND_STROKE a_FILL)), .val (.ref (pk ((u3 >>> ((2 : Int32) &&& 31)) &&& (3 : Int32)) a_Cap_ROUND a_SQUARE a_BUTT)), .val (.ref (pk ((u3 >>> ((4 : Int32) &&& 31)) &&& (3 : Int32)) a_Join_ROUND a_BEVEL a_MITER)), .val (.ref (pk ((u3 >>> ((6 : Int32) &&& 31)) &&& (3 : Int32)) a_CENTER a_RIGHT a_LEFT)), .val (.float fv6), .val (.float fv8), .val (.ref b9), .val (.ref b18)] [(.ref b18)])) _
    refine st26.trans ?_
    show Steps p.tables e below (T26.setTop (mkF m 184 #[.val (.int u0), .val (.int u1), .val (.int u2), .val (.int u3), .val (.int u4), .val (.int u5), .val (.ref (pk (u3 &&& (3 : Int32)) a_STROKE a_FILL_AND_STROKE a_FILL)), .val (.ref (pk ((u3 >>> ((2 : Int32) &&& 31)) &&& (3 : Int32)) a_Cap_ROUND a_SQUARE a_BUTT)), .val (.ref (pk ((u3 >>> ((4 : Int32) &&& 31)) &&& (3 : Int32)) a_Join_ROUND a_BEVEL a_MITER)), .val (.ref (pk ((u3 >>> ((6 : Int32) &&& 31)) &&& (3 : Int32)) a_CENTER a_RIGHT a_LEFT)), .val (.float fv6), .val (.float fv8), .val (.ref b9), .val (.ref b18)] [(.ref (pk ((u3 >>> ((4 : Int32) &&& 31)) &&& (3 : Int32)) a_Join_ROUND a_BEVEL a_MITER))])) _
    refine XS.aload X26.here hx rfl (hb hby at_184) rfl rfl ?_
    show Steps p.tables e below (T26.setTop (mkF m 186 #[.val (.int u0), .val (.int u1), .val (.int u2), .val (.int u3), .val (.int u4), .val (.int u5), .val (.ref (pk (u3 &&& (3 : Int32)) a_STROKE a_FILL_AND_STROKE a_FILL)), .val (.ref (pk ((u3 >>> ((2 : Int32) &&& 31)) &&& (3 : Int32)) a_Cap_ROUND a_SQUARE a_BUTT)), .val (.ref (pk ((u3 >>> ((4 : Int32) &&& 31)) &&& (3 : Int32)) a_Join_ROUND a_BEVEL a_MITER)), .val (.ref (pk ((u3 >>> ((6 : Int32) &&& 31)) &&& (3 : Int32)) a_CENTER a_RIGHT a_LEFT)), .val (.float fv6), .val (.float fv8), .val (.ref b9), .val (.ref b18)] [(.ref (pk ((u3 >>> ((4 : Int32) &&& 31)) &&& (3 : Int32)) a_Join_ROUND a_BEVEL a_MITER)), (.ref (pk ((u3 >>> ((4 : Int32) &&& 31)) &&& (3 : Int32)) a_Join_ROUND a_BEVEL a_MITER))])) _
    refine Jvm.RoadKit.acmp (g := (mkF m 186 #[.val (.int u0), .val (.int u1), .val (.int u2), .val (.int u3), .val (.int u4), .val (.int u5), .val (.ref (pk (u3 &&& (3 : Int32)) a_STROKE a_FILL_AND_STROKE a_FILL)), .val (.ref (pk ((u3 >>> ((2 : Int32) &&& 31)) &&& (3 : Int32)) a_Cap_ROUND a_SQUARE a_BUTT)), .val (.ref (pk ((u3 >>> ((4 : Int32) &&& 31)) &&& (3 : Int32)) a_Join_ROUND a_BEVEL a_MITER)), .val (.ref (pk ((u3 >>> ((6 : Int32) &&& 31)) &&& (3 : Int32)) a_CENTER a_RIGHT a_LEFT)), .val (.float fv6), .val (.float fv8), .val (.ref b9), .val (.ref b18)] [(.ref (pk ((u3 >>> ((4 : Int32) &&& 31)) &&& (3 : Int32)) a_Join_ROUND a_BEVEL a_MITER)), (.ref (pk ((u3 >>> ((4 : Int32) &&& 31)) &&& (3 : Int32)) a_Join_ROUND a_BEVEL a_MITER))])) X26 hx rfl rfl rfl (pc0 := 186) (pc' := 189) (same := true) rfl (hb hby at_186) rfl (decide_eq_true rfl) (by decide) (by decide) ?_
    show Steps p.tables e below (T26.setTop (mkF m 189 #[.val (.int u0), .val (.int u1), .val (.int u2), .val (.int u3), .val (.int u4), .val (.int u5), .val (.ref (pk (u3 &&& (3 : Int32)) a_STROKE a_FILL_AND_STROKE a_FILL)), .val (.ref (pk ((u3 >>> ((2 : Int32) &&& 31)) &&& (3 : Int32)) a_Cap_ROUND a_SQUARE a_BUTT)), .val (.ref (pk ((u3 >>> ((4 : Int32) &&& 31)) &&& (3 : Int32)) a_Join_ROUND a_BEVEL a_MITER)), .val (.ref (pk ((u3 >>> ((6 : Int32) &&& 31)) &&& (3 : Int32)) a_CENTER a_RIGHT a_LEFT)), .val (.float fv6), .val (.float fv8), .val (.ref b9), .val (.ref b18)] [])) _
    refine XS.aload X26.here hx rfl (hb hby at_189) rfl rfl ?_
    show Steps p.tables e below (T26.setTop (mkF m 191 #[.val (.int u0), .val (.int u1), .val (.int u2), .val (.int u3), .val (.int u4), .val (.int u5), .val (.ref (pk (u3 &&& (3 : Int32)) a_STROKE a_FILL_AND_STROKE a_FILL)), .val (.ref (pk ((u3 >>> ((2 : Int32) &&& 31)) &&& (3 : Int32)) a_Cap_ROUND a_SQUARE a_BUTT)), .val (.ref (pk ((u3 >>> ((4 : Int32) &&& 31)) &&& (3 : Int32)) a_Join_ROUND a_BEVEL a_MITER)), .val (.ref (pk ((u3 >>> ((6 : Int32) &&& 31)) &&& (3 : Int32)) a_CENTER a_RIGHT a_LEFT)), .val (.float fv6), .val (.float fv8), .val (.ref b9), .val (.ref b18)] [(.ref b18)])) _
    refine st27.trans ?_
    show Steps p.tables e below (T27.setTop (mkF m 194 #[.val (.int u0), .val (.int u1), .val (.int u2), .val (.int u3), .val (.int u4), .val (.int u5), .val (.ref (pk (u3 &&& (3 : Int32)) a_STROKE a_FILL_AND_STROKE a_FILL)), .val (.ref (pk ((u3 >>> ((2 : Int32) &&& 31)) &&& (3 : Int32)) a_Cap_ROUND a_SQUARE a_BUTT)), .val (.ref (pk ((u3 >>> ((4 : Int32) &&& 31)) &&& (3 : Int32)) a_Join_ROUND a_BEVEL a_MITER)), .val (.ref (pk ((u3 >>> ((6 : Int32) &&& 31)) &&& (3 : Int32)) a_CENTER a_RIGHT a_LEFT)), .val (.float fv6), .val (.float fv8), .val (.ref b9), .val (.ref b18)] [(.ref a_DEFAULT)])) _
    refine XS.aload X27.here hx rfl (hb hby at_194) rfl rfl ?_
    show Steps p.tables e below (T27.setTop (mkF m 196 #[.val (.int u0), .val (.int u1), .val (.int u2), .val (.int u3), .val (.int u4), .val (.int u5), .val (.ref (pk (u3 &&& (3 : Int32)) a_STROKE a_FILL_AND_STROKE a_FILL)), .val (.ref (pk ((u3 >>> ((2 : Int32) &&& 31)) &&& (3 : Int32)) a_Cap_ROUND a_SQUARE a_BUTT)), .val (.ref (pk ((u3 >>> ((4 : Int32) &&& 31)) &&& (3 : Int32)) a_Join_ROUND a_BEVEL a_MITER)), .val (.ref (pk ((u3 >>> ((6 : Int32) &&& 31)) &&& (3 : Int32)) a_CENTER a_RIGHT a_LEFT)), .val (.float fv6), .val (.float fv8), .val (.ref b9), .val (.ref b18)] [(.ref b9), (.ref a_DEFAULT)])) _
    refine st28.trans ?_
    show Steps p.tables e below (T28.setTop (mkF m 199 #[.val (.int u0), .val (.int u1), .val (.int u2), .val (.int u3), .val (.int u4), .val (.int u5), .val (.ref (pk (u3 &&& (3 : Int32)) a_STROKE a_FILL_AND_STROKE a_FILL)), .val (.ref (pk ((u3 >>> ((2 : Int32) &&& 31)) &&& (3 : Int32)) a_Cap_ROUND a_SQUARE a_BUTT)), .val (.ref (pk ((u3 >>> ((4 : Int32) &&& 31)) &&& (3 : Int32)) a_Join_ROUND a_BEVEL a_MITER)), .val (.ref (pk ((u3 >>> ((6 : Int32) &&& 31)) &&& (3 : Int32)) a_CENTER a_RIGHT a_LEFT)), .val (.float fv6), .val (.float fv8), .val (.ref b9), .val (.ref b18)] [(.ref a_DEFAULT), (.ref a_DEFAULT)])) _
    refine Jvm.RoadKit.acmp (g := (mkF m 199 #[.val (.int u0), .val (.int u1), .val (.int u2), .val (.int u3), .val (.int u4), .val (.int u5), .val (.ref (pk (u3 &&& (3 : Int32)) a_STROKE a_FILL_AND_STROKE a_FILL)), .val (.ref (pk ((u3 >>> ((2 : Int32) &&& 31)) &&& (3 : Int32)) a_Cap_ROUND a_SQUARE a_BUTT)), .val (.ref (pk ((u3 >>> ((4 : Int32) &&& 31)) &&& (3 : Int32)) a_Join_ROUND a_BEVEL a_MITER)), .val (.ref (pk ((u3 >>> ((6 : Int32) &&& 31)) &&& (3 : Int32)) a_CENTER a_RIGHT a_LEFT)), .val (.float fv6), .val (.float fv8), .val (.ref b9), .val (.ref b18)] [(.ref a_DEFAULT), (.ref a_DEFAULT)])) X28 hx rfl rfl rfl (pc0 := 199) (pc' := 202) (same := true) rfl (hb hby at_199) rfl (decide_eq_true rfl) (by decide) (by decide) ?_
    show Steps p.tables e below (T28.setTop (mkF m 202 #[.val (.int u0), .val (.int u1), .val (.int u2), .val (.int u3), .val (.int u4), .val (.int u5), .val (.ref (pk (u3 &&& (3 : Int32)) a_STROKE a_FILL_AND_STROKE a_FILL)), .val (.ref (pk ((u3 >>> ((2 : Int32) &&& 31)) &&& (3 : Int32)) a_Cap_ROUND a_SQUARE a_BUTT)), .val (.ref (pk ((u3 >>> ((4 : Int32) &&& 31)) &&& (3 : Int32)) a_Join_ROUND a_BEVEL a_MITER)), .val (.ref (pk ((u3 >>> ((6 : Int32) &&& 31)) &&& (3 : Int32)) a_CENTER a_RIGHT a_LEFT)), .val (.float fv6), .val (.float fv8), .val (.ref b9), .val (.ref b18)] [])) _
    refine XS.aload X28.here hx rfl (hb hby at_202) rfl rfl ?_
    show Steps p.tables e below (T28.setTop (mkF m 204 #[.val (.int u0), .val (.int u1), .val (.int u2), .val (.int u3), .val (.int u4), .val (.int u5), .val (.ref (pk (u3 &&& (3 : Int32)) a_STROKE a_FILL_AND_STROKE a_FILL)), .val (.ref (pk ((u3 >>> ((2 : Int32) &&& 31)) &&& (3 : Int32)) a_Cap_ROUND a_SQUARE a_BUTT)), .val (.ref (pk ((u3 >>> ((4 : Int32) &&& 31)) &&& (3 : Int32)) a_Join_ROUND a_BEVEL a_MITER)), .val (.ref (pk ((u3 >>> ((6 : Int32) &&& 31)) &&& (3 : Int32)) a_CENTER a_RIGHT a_LEFT)), .val (.float fv6), .val (.float fv8), .val (.ref b9), .val (.ref b18)] [(.ref b18)])) _
    refine st29.trans ?_
    show Steps p.tables e below (T29.setTop (mkF m 207 #[.val (.int u0), .val (.int u1), .val (.int u2), .val (.int u3), .val (.int u4), .val (.int u5), .val (.ref (pk (u3 &&& (3 : Int32)) a_STROKE a_FILL_AND_STROKE a_FILL)), .val (.ref (pk ((u3 >>> ((2 : Int32) &&& 31)) &&& (3 : Int32)) a_Cap_ROUND a_SQUARE a_BUTT)), .val (.ref (pk ((u3 >>> ((4 : Int32) &&& 31)) &&& (3 : Int32)) a_Join_ROUND a_BEVEL a_MITER)), .val (.ref (pk ((u3 >>> ((6 : Int32) &&& 31)) &&& (3 : Int32)) a_CENTER a_RIGHT a_LEFT)), .val (.float fv6), .val (.float fv8), .val (.ref b9), .val (.ref b18)] [(.float fv8)])) _
    refine XS.fload X29.here hx rfl (hb hby at_207) rfl ?_
    show Steps p.tables e below (T29.setTop (mkF m 209 #[.val (.int u0), .val (.int u1), .val (.int u2), .val (.int u3), .val (.int u4), .val (.int u5), .val (.ref (pk (u3 &&& (3 : Int32)) a_STROKE a_FILL_AND_STROKE a_FILL)), .val (.ref (pk ((u3 >>> ((2 : Int32) &&& 31)) &&& (3 : Int32)) a_Cap_ROUND a_SQUARE a_BUTT)), .val (.ref (pk ((u3 >>> ((4 : Int32) &&& 31)) &&& (3 : Int32)) a_Join_ROUND a_BEVEL a_MITER)), .val (.ref (pk ((u3 >>> ((6 : Int32) &&& 31)) &&& (3 : Int32)) a_CENTER a_RIGHT a_LEFT)), .val (.float fv6), .val (.float fv8), .val (.ref b9), .val (.ref b18)] [(.float fv8), (.float fv8)])) _
    refine XS.fcmpS X29.here hx rfl (hb hby at_209) rfl (v := (cmpValue (FP.fcmp fv8 fv8) .l)) rfl ?_
    show Steps p.tables e below (T29.setTop (mkF m 210 #[.val (.int u0), .val (.int u1), .val (.int u2), .val (.int u3), .val (.int u4), .val (.int u5), .val (.ref (pk (u3 &&& (3 : Int32)) a_STROKE a_FILL_AND_STROKE a_FILL)), .val (.ref (pk ((u3 >>> ((2 : Int32) &&& 31)) &&& (3 : Int32)) a_Cap_ROUND a_SQUARE a_BUTT)), .val (.ref (pk ((u3 >>> ((4 : Int32) &&& 31)) &&& (3 : Int32)) a_Join_ROUND a_BEVEL a_MITER)), .val (.ref (pk ((u3 >>> ((6 : Int32) &&& 31)) &&& (3 : Int32)) a_CENTER a_RIGHT a_LEFT)), .val (.float fv6), .val (.float fv8), .val (.ref b9), .val (.ref b18)] [(.int (cmpValue (FP.fcmp fv8 fv8) .l))])) _
    refine XS.ifNo X29.here hx rfl (hb hby at_210) rfl ((if0 _ _).trans (teq (fcmpV_self (by rw [fe8]; exact (Jvm.Free.Fl.i2f_fin _).noNaN) _)).2) ?_
    show Steps p.tables e below (T29.setTop (mkF m 213 #[.val (.int u0), .val (.int u1), .val (.int u2), .val (.int u3), .val (.int u4), .val (.int u5), .val (.ref (pk (u3 &&& (3 : Int32)) a_STROKE a_FILL_AND_STROKE a_FILL)), .val (.ref (pk ((u3 >>> ((2 : Int32) &&& 31)) &&& (3 : Int32)) a_Cap_ROUND a_SQUARE a_BUTT)), .val (.ref (pk ((u3 >>> ((4 : Int32) &&& 31)) &&& (3 : Int32)) a_Join_ROUND a_BEVEL a_MITER)), .val (.ref (pk ((u3 >>> ((6 : Int32) &&& 31)) &&& (3 : Int32)) a_CENTER a_RIGHT a_LEFT)), .val (.float fv6), .val (.float fv8), .val (.ref b9), .val (.ref b18)] [])) _
    refine XS.aload X29.here hx rfl (hb hby at_213) rfl rfl ?_
    show Steps p.tables e below (T29.setTop (mkF m 215 #[.val (.int u0), .val (.int u1), .val (.int u2), .val (.int u3), .val (.int u4), .val (.int u5), .val (.ref (pk (u3 &&& (3 : Int32)) a_STROKE a_FILL_AND_STROKE a_FILL)), .val (.ref (pk ((u3 >>> ((2 : Int32) &&& 31)) &&& (3 : Int32)) a_Cap_ROUND a_SQUARE a_BUTT)), .val (.ref (pk ((u3 >>> ((4 : Int32) &&& 31)) &&& (3 : Int32)) a_Join_ROUND a_BEVEL a_MITER)), .val (.ref (pk ((u3 >>> ((6 : Int32) &&& 31)) &&& (3 : Int32)) a_CENTER a_RIGHT a_LEFT)), .val (.float fv6), .val (.float fv8), .val (.ref b9), .val (.ref b18)] [(.ref b18)])) _
    refine st30.trans ?_
    show Steps p.tables e below (T30.setTop (mkF m 218 #[.val (.int u0), .val (.int u1), .val (.int u2), .val (.int u3), .val (.int u4), .val (.int u5), .val (.ref (pk (u3 &&& (3 : Int32)) a_STROKE a_FILL_AND_STROKE a_FILL)), .val (.ref (pk ((u3 >>> ((2 : Int32) &&& 31)) &&& (3 : Int32)) a_Cap_ROUND a_SQUARE a_BUTT)), .val (.ref (pk ((u3 >>> ((4 : Int32) &&& 31)) &&& (3 : Int32)) a_Join_ROUND a_BEVEL a_MITER)), .val (.ref (pk ((u3 >>> ((6 : Int32) &&& 31)) &&& (3 : Int32)) a_CENTER a_RIGHT a_LEFT)), .val (.float fv6), .val (.float fv8), .val (.ref b9), .val (.ref b18)] [(.ref (pk ((u3 >>> ((6 : Int32) &&& 31)) &&& (3 : Int32)) a_CENTER a_RIGHT a_LEFT))])) _
    refine XS.aload X30.here hx rfl (hb hby at_218) rfl rfl ?_
    show Steps p.tables e below (T30.setTop (mkF m 220 #[.val (.int u0), .val (.int u1), .val (.int u2), .val (.int u3), .val (.int u4), .val (.int u5), .val (.ref (pk (u3 &&& (3 : Int32)) a_STROKE a_FILL_AND_STROKE a_FILL)), .val (.ref (pk ((u3 >>> ((2 : Int32) &&& 31)) &&& (3 : Int32)) a_Cap_ROUND a_SQUARE a_BUTT)), .val (.ref (pk ((u3 >>> ((4 : Int32) &&& 31)) &&& (3 : Int32)) a_Join_ROUND a_BEVEL a_MITER)), .val (.ref (pk ((u3 >>> ((6 : Int32) &&& 31)) &&& (3 : Int32)) a_CENTER a_RIGHT a_LEFT)), .val (.float fv6), .val (.float fv8), .val (.ref b9), .val (.ref b18)] [(.ref (pk ((u3 >>> ((6 : Int32) &&& 31)) &&& (3 : Int32)) a_CENTER a_RIGHT a_LEFT)), (.ref (pk ((u3 >>> ((6 : Int32) &&& 31)) &&& (3 : Int32)) a_CENTER a_RIGHT a_LEFT))])) _
    refine Jvm.RoadKit.acmp (g := (mkF m 220 #[.val (.int u0), .val (.int u1), .val (.int u2), .val (.int u3), .val (.int u4), .val (.int u5), .val (.ref (pk (u3 &&& (3 : Int32)) a_STROKE a_FILL_AND_STROKE a_FILL)), .val (.ref (pk ((u3 >>> ((2 : Int32) &&& 31)) &&& (3 : Int32)) a_Cap_ROUND a_SQUARE a_BUTT)), .val (.ref (pk ((u3 >>> ((4 : Int32) &&& 31)) &&& (3 : Int32)) a_Join_ROUND a_BEVEL a_MITER)), .val (.ref (pk ((u3 >>> ((6 : Int32) &&& 31)) &&& (3 : Int32)) a_CENTER a_RIGHT a_LEFT)), .val (.float fv6), .val (.float fv8), .val (.ref b9), .val (.ref b18)] [(.ref (pk ((u3 >>> ((6 : Int32) &&& 31)) &&& (3 : Int32)) a_CENTER a_RIGHT a_LEFT)), (.ref (pk ((u3 >>> ((6 : Int32) &&& 31)) &&& (3 : Int32)) a_CENTER a_RIGHT a_LEFT))])) X30 hx rfl rfl rfl (pc0 := 220) (pc' := 223) (same := true) rfl (hb hby at_220) rfl (decide_eq_true rfl) (by decide) (by decide) ?_
    show Steps p.tables e below (T30.setTop (mkF m 223 #[.val (.int u0), .val (.int u1), .val (.int u2), .val (.int u3), .val (.int u4), .val (.int u5), .val (.ref (pk (u3 &&& (3 : Int32)) a_STROKE a_FILL_AND_STROKE a_FILL)), .val (.ref (pk ((u3 >>> ((2 : Int32) &&& 31)) &&& (3 : Int32)) a_Cap_ROUND a_SQUARE a_BUTT)), .val (.ref (pk ((u3 >>> ((4 : Int32) &&& 31)) &&& (3 : Int32)) a_Join_ROUND a_BEVEL a_MITER)), .val (.ref (pk ((u3 >>> ((6 : Int32) &&& 31)) &&& (3 : Int32)) a_CENTER a_RIGHT a_LEFT)), .val (.float fv6), .val (.float fv8), .val (.ref b9), .val (.ref b18)] [])) _
    refine XS.iconst X30.here hx rfl (hb hby at_223) ?_
    show Steps p.tables e below (T30.setTop (mkF m 224 #[.val (.int u0), .val (.int u1), .val (.int u2), .val (.int u3), .val (.int u4), .val (.int u5), .val (.ref (pk (u3 &&& (3 : Int32)) a_STROKE a_FILL_AND_STROKE a_FILL)), .val (.ref (pk ((u3 >>> ((2 : Int32) &&& 31)) &&& (3 : Int32)) a_Cap_ROUND a_SQUARE a_BUTT)), .val (.ref (pk ((u3 >>> ((4 : Int32) &&& 31)) &&& (3 : Int32)) a_Join_ROUND a_BEVEL a_MITER)), .val (.ref (pk ((u3 >>> ((6 : Int32) &&& 31)) &&& (3 : Int32)) a_CENTER a_RIGHT a_LEFT)), .val (.float fv6), .val (.float fv8), .val (.ref b9), .val (.ref b18)] [(.int (1 : Int32))])) _
    refine XS.goto X30.here hx rfl (pc0 := 224) (pc' := 228) rfl (hb hby at_224) (by decide) (by decide) ?_
    show Steps p.tables e below (T30.setTop (mkF m 228 #[.val (.int u0), .val (.int u1), .val (.int u2), .val (.int u3), .val (.int u4), .val (.int u5), .val (.ref (pk (u3 &&& (3 : Int32)) a_STROKE a_FILL_AND_STROKE a_FILL)), .val (.ref (pk ((u3 >>> ((2 : Int32) &&& 31)) &&& (3 : Int32)) a_Cap_ROUND a_SQUARE a_BUTT)), .val (.ref (pk ((u3 >>> ((4 : Int32) &&& 31)) &&& (3 : Int32)) a_Join_ROUND a_BEVEL a_MITER)), .val (.ref (pk ((u3 >>> ((6 : Int32) &&& 31)) &&& (3 : Int32)) a_CENTER a_RIGHT a_LEFT)), .val (.float fv6), .val (.float fv8), .val (.ref b9), .val (.ref b18)] [(.int (1 : Int32))])) _
    exact retN X30 hx (t := .boolean) Bd.returns (by simp) (hb hby at_228) hr
  · show Q0 Z u0 u1 u2 u3 u4 u5 a_STROKE a_FILL a_FILL_AND_STROKE a_BUTT a_Cap_ROUND a_SQUARE a_MITER a_Join_ROUND a_BEVEL a_LEFT a_CENTER a_RIGHT a_DEFAULT h0 n0 _ T30.heap _
    rw [e30]
    exact ⟨rfl, N30⟩
  · show CHr Z EL s.vm s.heap T30.vm T30.heap
    rw [e30]
    rw [hh]
    exact C20.trans (CHv.at X30 hZ (hEL hw) C20.1)
set_option maxRecDepth 65536 in
set_option maxHeartbeats 40000000 in
theorem comes_1 {Post : Tables → Env → Array Value → State → Outcome → State → Prop} (hpost : ∀ tb e args s v u, (limb_1_1.after args s (.returned v) u = true ∧ limb_1_2.after args s (.returned v) u = true ∧ True) → ReturnedEndW s (.returned v) u (Jvm.fieldLocs frame_1_writes args s ++ Jvm.arrayLocs frame_1_arrays args s ++ Jvm.staticLocs frame_1_statics s) 24 4224 → Post tb e args s (.returned v) u) :
    ArmFor flags0 classFile x code maxLocals ret World_1 tables_1 room_1 Calls_1 rest_1 Pre_1 Post := by
  intro l hfl _ _ p e ha hc hk s m args below hf hA hF happ hP
  obtain ⟨hcalls, hrest, hpre⟩ := hP
  obtain ⟨-, -, -, hnamed, -, -, -, hat⟩ := (Spec.applies_iff hf).mp happ
  obtain ⟨hg, hn⟩ := and_e (Cond.before_iff.mp (show (Jvm.Cond.and given_1 narrow_1).before args s = true from hpre))
  obtain ⟨g1, g2⟩ := and_e hg
  obtain ⟨g3, g4⟩ := and_e g2
  obtain ⟨g5, g6⟩ := and_e g4
  obtain ⟨g7, g8⟩ := and_e g6
  obtain ⟨g9, g10⟩ := and_e g8
  obtain ⟨g11, g12⟩ := and_e g10
  obtain ⟨g13, g14⟩ := and_e hn
  obtain ⟨g15, g16⟩ := and_e g14
  obtain ⟨g17, g18⟩ := and_e g16
  obtain ⟨g19, g20⟩ := and_e g18
  obtain ⟨g21, g22⟩ := and_e g20
  obtain ⟨g23, g24⟩ := and_e g22
  obtain ⟨g25, g26⟩ := and_e g24
  obtain ⟨g27, g28⟩ := and_e g26
  obtain ⟨g29, g30⟩ := and_e g28
  obtain ⟨g31, g32⟩ := and_e g30
  obtain ⟨g33, g34⟩ := and_e g32
  obtain ⟨g35, g36⟩ := and_e g34
  obtain ⟨w0, w1, w2, w3, w4, w5, rfl⟩ : ∃ w0 w1 w2 w3 w4 w5 : Value, args = #[w0, w1, w2, w3, w4, w5] := by
    have hs : args.size = 6 := by simpa [Cond.value, given_1] using g1
    obtain ⟨L⟩ := args
    match L, hs with
    | [w0, w1, w2, w3, w4, w5], _ => exact ⟨w0, w1, w2, w3, w4, w5, rfl⟩
  have hw := fun d (hd : d ∈ tables_1) => atoms_spec (ws := Jvm.Cond.code x code maxLocals ret :: tables_1) hat d (List.mem_cons_of_mem _ hd)
  have hfit : Fit s := fun {y c} hc i hi => by
    obtain ⟨ha, rfl⟩ := Array.getElem?_eq_some_iff.mp hc
    have q := List.all_eq_true.mp ((Array.all_eq_true_iff_forall_mem.mp hF) _ (Array.getElem_mem ha)) i (List.mem_range.mpr hi)
    simpa [Array.getElem?_eq_getElem hi] using q
  obtain ⟨i0, ei0⟩ := is_v g3
  obtain rfl : w0 = (.int i0) := Option.some.inj ei0
  obtain ⟨i1, ei1⟩ := is_v g5
  obtain rfl : w1 = (.int i1) := Option.some.inj ei1
  obtain ⟨i2, ei2⟩ := is_v g7
  obtain rfl : w2 = (.int i2) := Option.some.inj ei2
  obtain ⟨i3, ei3⟩ := is_v g9
  obtain rfl : w3 = (.int i3) := Option.some.inj ei3
  obtain ⟨i4, ei4⟩ := is_v g11
  obtain rfl : w4 = (.int i4) := Option.some.inj ei4
  obtain ⟨i5, ei5⟩ := is_v g12
  obtain rfl : w5 = (.int i5) := Option.some.inj ei5
  obtain ⟨a_STROKE, ev_STROKE⟩ := exa_v g13
  have E_STROKE : Exa s s.heap a_STROKE "com/example/decorum/decorum/graphics/Paint$Style" := Exa.start ev_STROKE g13
  have S_STROKE : Sta s s.heap "com/example/decorum/decorum/graphics/Paint$Style" "STROKE" "Lcom/example/decorum/decorum/graphics/Paint$Style;" (.ref a_STROKE) := Sta.start ev_STROKE (Or.inr ⟨(hw _ (List.mem_of_getElem? (i := 5) rfl)), (hw _ (List.mem_of_getElem? (i := 6) rfl))⟩)
  obtain ⟨a_BUTT, ev_BUTT⟩ := exa_v g15
  have E_BUTT : Exa s s.heap a_BUTT "com/example/decorum/decorum/graphics/Paint$Cap" := Exa.start ev_BUTT g15
  have S_BUTT : Sta s s.heap "com/example/decorum/decorum/graphics/Paint$Cap" "BUTT" "Lcom/example/decorum/decorum/graphics/Paint$Cap;" (.ref a_BUTT) := Sta.start ev_BUTT (Or.inr ⟨(hw _ (List.mem_of_getElem? (i := 11) rfl)), (hw _ (List.mem_of_getElem? (i := 12) rfl))⟩)
  obtain ⟨a_MITER, ev_MITER⟩ := exa_v g17
  have E_MITER : Exa s s.heap a_MITER "com/example/decorum/decorum/graphics/Paint$Join" := Exa.start ev_MITER g17
  have S_MITER : Sta s s.heap "com/example/decorum/decorum/graphics/Paint$Join" "MITER" "Lcom/example/decorum/decorum/graphics/Paint$Join;" (.ref a_MITER) := Sta.start ev_MITER (Or.inr ⟨(hw _ (List.mem_of_getElem? (i := 17) rfl)), (hw _ (List.mem_of_getElem? (i := 18) rfl))⟩)
  obtain ⟨a_LEFT, ev_LEFT⟩ := exa_v g19
  have E_LEFT : Exa s s.heap a_LEFT "com/example/decorum/decorum/graphics/Paint$Align" := Exa.start ev_LEFT g19
  have S_LEFT : Sta s s.heap "com/example/decorum/decorum/graphics/Paint$Align" "LEFT" "Lcom/example/decorum/decorum/graphics/Paint$Align;" (.ref a_LEFT) := Sta.start ev_LEFT (Or.inr ⟨(hw _ (List.mem_of_getElem? (i := 23) rfl)), (hw _ (List.mem_of_getElem? (i := 24) rfl))⟩)
  obtain ⟨a_FILL, ev_FILL⟩ := exa_v g21
  have E_FILL : Exa s s.heap a_FILL "com/example/decorum/decorum/graphics/Paint$Style" := Exa.start ev_FILL g21
  have S_FILL : Sta s s.heap "com/example/decorum/decorum/graphics/Paint$Style" "FILL" "Lcom/example/decorum/decorum/graphics/Paint$Style;" (.ref a_FILL) := Sta.start ev_FILL (Or.inr ⟨(hw _ (List.mem_of_getElem? (i := 5) rfl)), (hw _ (List.mem_of_getElem? (i := 41) rfl))⟩)
  obtain ⟨a_DEFAULT, ev_DEFAULT⟩ := exa_v g23
  have E_DEFAULT : Exa s s.heap a_DEFAULT "com/example/decorum/decorum/graphics/Typeface" := Exa.start ev_DEFAULT g23
  have S_DEFAULT : Sta s s.heap "com/example/decorum/decorum/graphics/Typeface" "DEFAULT" "Lcom/example/decorum/decorum/graphics/Typeface;" (.ref a_DEFAULT) := Sta.start ev_DEFAULT (Or.inr ⟨(hw _ (List.mem_of_getElem? (i := 51) rfl)), (hw _ (List.mem_of_getElem? (i := 52) rfl))⟩)
  obtain ⟨a_Cap_ROUND, ev_Cap_ROUND⟩ := exa_v g25
  have E_Cap_ROUND : Exa s s.heap a_Cap_ROUND "com/example/decorum/decorum/graphics/Paint$Cap" := Exa.start ev_Cap_ROUND g25
  have S_Cap_ROUND : Sta s s.heap "com/example/decorum/decorum/graphics/Paint$Cap" "ROUND" "Lcom/example/decorum/decorum/graphics/Paint$Cap;" (.ref a_Cap_ROUND) := Sta.start ev_Cap_ROUND (Or.inr ⟨(hw _ (List.mem_of_getElem? (i := 11) rfl)), (hw _ (List.mem_of_getElem? (i := 174) rfl))⟩)
  obtain ⟨a_BEVEL, ev_BEVEL⟩ := exa_v g27
  have E_BEVEL : Exa s s.heap a_BEVEL "com/example/decorum/decorum/graphics/Paint$Join" := Exa.start ev_BEVEL g27
  have S_BEVEL : Sta s s.heap "com/example/decorum/decorum/graphics/Paint$Join" "BEVEL" "Lcom/example/decorum/decorum/graphics/Paint$Join;" (.ref a_BEVEL) := Sta.start ev_BEVEL (Or.inr ⟨(hw _ (List.mem_of_getElem? (i := 17) rfl)), (hw _ (List.mem_of_getElem? (i := 176) rfl))⟩)
  obtain ⟨a_SQUARE, ev_SQUARE⟩ := exa_v g29
  have E_SQUARE : Exa s s.heap a_SQUARE "com/example/decorum/decorum/graphics/Paint$Cap" := Exa.start ev_SQUARE g29
  have S_SQUARE : Sta s s.heap "com/example/decorum/decorum/graphics/Paint$Cap" "SQUARE" "Lcom/example/decorum/decorum/graphics/Paint$Cap;" (.ref a_SQUARE) := Sta.start ev_SQUARE (Or.inr ⟨(hw _ (List.mem_of_getElem? (i := 11) rfl)), (hw _ (List.mem_of_getElem? (i := 178) rfl))⟩)
  obtain ⟨a_CENTER, ev_CENTER⟩ := exa_v g31
  have E_CENTER : Exa s s.heap a_CENTER "com/example/decorum/decorum/graphics/Paint$Align" := Exa.start ev_CENTER g31
  have S_CENTER : Sta s s.heap "com/example/decorum/decorum/graphics/Paint$Align" "CENTER" "Lcom/example/decorum/decorum/graphics/Paint$Align;" (.ref a_CENTER) := Sta.start ev_CENTER (Or.inr ⟨(hw _ (List.mem_of_getElem? (i := 23) rfl)), (hw _ (List.mem_of_getElem? (i := 180) rfl))⟩)
  obtain ⟨a_FILL_AND_STROKE, ev_FILL_AND_STROKE⟩ := exa_v g33
  have E_FILL_AND_STROKE : Exa s s.heap a_FILL_AND_STROKE "com/example/decorum/decorum/graphics/Paint$Style" := Exa.start ev_FILL_AND_STROKE g33
  have S_FILL_AND_STROKE : Sta s s.heap "com/example/decorum/decorum/graphics/Paint$Style" "FILL_AND_STROKE" "Lcom/example/decorum/decorum/graphics/Paint$Style;" (.ref a_FILL_AND_STROKE) := Sta.start ev_FILL_AND_STROKE (Or.inr ⟨(hw _ (List.mem_of_getElem? (i := 5) rfl)), (hw _ (List.mem_of_getElem? (i := 182) rfl))⟩)
  obtain ⟨a_Join_ROUND, ev_Join_ROUND⟩ := exa_v g35
  have E_Join_ROUND : Exa s s.heap a_Join_ROUND "com/example/decorum/decorum/graphics/Paint$Join" := Exa.start ev_Join_ROUND g35
  have S_Join_ROUND : Sta s s.heap "com/example/decorum/decorum/graphics/Paint$Join" "ROUND" "Lcom/example/decorum/decorum/graphics/Paint$Join;" (.ref a_Join_ROUND) := Sta.start ev_Join_ROUND (Or.inr ⟨(hw _ (List.mem_of_getElem? (i := 17) rfl)), (hw _ (List.mem_of_getElem? (i := 184) rfl))⟩)
  obtain ⟨a_RIGHT, ev_RIGHT⟩ := exa_v g36
  have E_RIGHT : Exa s s.heap a_RIGHT "com/example/decorum/decorum/graphics/Paint$Align" := Exa.start ev_RIGHT g36
  have S_RIGHT : Sta s s.heap "com/example/decorum/decorum/graphics/Paint$Align" "RIGHT" "Lcom/example/decorum/decorum/graphics/Paint$Align;" (.ref a_RIGHT) := Sta.start ev_RIGHT (Or.inr ⟨(hw _ (List.mem_of_getElem? (i := 23) rfl)), (hw _ (List.mem_of_getElem? (i := 186) rfl))⟩)
  have hCH : CHv s EL s.vm s.heap := fun p hp => by cases hp
  obtain ⟨n, o, h1, h2, h3, _, L, rfl, ⟨rfl, N⟩, -, hq⟩ := rm0 l s _ hw tables_1 i0 i1 i2 i3 i4 i5 a_STROKE a_FILL a_FILL_AND_STROKE a_BUTT a_Cap_ROUND a_SQUARE a_MITER a_Join_ROUND a_BEVEL a_LEFT a_CENTER a_RIGHT a_DEFAULT s.heap s.heap.size (Nat.le_refl _) (Old.start s) S_STROKE S_FILL S_FILL_AND_STROKE S_BUTT S_Cap_ROUND S_SQUARE S_MITER S_Join_ROUND S_BEVEL S_LEFT S_CENTER S_RIGHT S_DEFAULT E_STROKE E_FILL E_FILL_AND_STROKE E_BUTT E_Cap_ROUND E_SQUARE E_MITER E_Join_ROUND E_BEVEL E_LEFT E_CENTER E_RIGHT p e ha hc hk s m _ below hf ((Spec.applies_iff_loose hf).mp happ).1 ⟨rfl, State.Warmed39.refl s, rfl, hCH⟩ trivial
  refine ⟨n, _, h1, h2, h3, hpost _ _ _ _ _ _ ⟨Cond.after_iff.mpr rfl, Cond.after_iff.mpr (eq_i res_at (Term.int_eval (1)) rfl), trivial⟩ ⟨hq.1, hq.2.1, hq.2.2.1, (hq.2.2.2.sift fun y hy => Or.inr (N y hy)).mono (by decide) (by decide)⟩⟩
theorem main_1_1 : Claimed_1_1 := comes_1 fun _ _ _ _ _ _ h hF => ⟨h.1, hF⟩
theorem main_1_2 : Claimed_1_2 := comes_1 fun _ _ _ _ _ _ h hF => ⟨h.2.1, hF⟩
end Jvm.Pilot.@@N@@
namespace Jvm.Pilot.@@N@@
open Jvm Jvm.ClassFile Sem Op Lib Jvm.Free Jvm.Stand Jvm.Pilot.@@N@@.Jvm.D
/-! MADE BY PROGRAM (witnessworld.py) out of the Statement's table words and the real class files: 21 classes; the members and pool entries that the words name. The judged class is class 1, her method 1. -/
namespace start1
open Jvm.ClassFile
def u (s : String) : CpInfo := .utf8 (stringToUtf16 s)
/-- a pool by its gaps: so many unusable entries, then the entry; so many at the end -/
def gap : Nat → List CpInfo → List CpInfo
  | 0, r => r
  | n + 1, r => .unusable :: gap n r
def poolList (es : List (Nat × CpInfo)) (last : Nat) : List CpInfo := es.foldr (fun e r => gap e.1 (e.2 :: r)) (gap last [])
def pool (es : List (Nat × CpInfo)) (last : Nat) : Array CpInfo := ⟨poolList es last⟩
def fileOf (pool : Array CpInfo) (this : Nat) (attrs : Array Attribute := #[]) (ms : Array MethodInfo := #[]) (fl : Nat := 33) (sup : Nat := 0) (ifs : Array Nat := #[]) (fds : Array FieldInfo := #[]) : ClassFile where
  minorVersion := 0
  majorVersion := 65
  constantPool := pool
  accessFlags := fl
  thisClass := this
  superClass := sup
  interfaces := ifs
  fields := fds
  methods := ms
  attributes := attrs
def plain (name : String) (sup : Option ClassId) : Class where
  name := name
  kind := .ordinary
  loader := none
  accessFlags := 33
  super := sup
  interfaces := #[]
  cf := none
  fields := #[]
  methods := #[]
  instanceTypes := #[]
  staticTypes := #[]
  resolved := #[]
  callSites := []
  init := .initialized
  statics := none
  mirror := none

def pool0 : Array CpInfo := pool [(5, u "<init>"), (0, u "()V"), (1, .class_ 10), (1, u "java/lang/Object")] 113

def k0c0 : Code := { maxStack := 0, maxLocals := 1, code := object_method_1_code, exceptionTable := #[], attributes := #[] }
def k0m0 : Method := { name := "<init>", desc := "()V", sig := { parameters := [], returnType := none }, accessFlags := 1, code := some k0c0 }
/-- java/lang/Object -/
def k0 : Class := { plain "java/lang/Object" none with
  accessFlags := 33
  interfaces := #[]
  cf := some (fileOf pool0 8 #[] #[{ accessFlags := 1, nameIndex := 5, descriptorIndex := 6, attributes := #[] }] 33 0 #[] #[])
  fields := #[]
  methods := #[k0m0]
  instanceTypes := #[]
  staticTypes := #[]
  resolved := Array.replicate 124 none
  statics := none }

def pool1 : Array CpInfo := pool [(2, .class_ 4), (1, u "java/lang/Object"), (0, u "<init>"), (0, u "()V"), (0, .methodref 8 9), (0, .class_ 10), (0, .nameAndType 11 12), (0, u "com/example/decorum/decorum/graphics/PaintSetPinLaw"), (0, u "style"), (0, u "(I)Lcom/example/decorum/decorum/graphics/Paint$Style;"), (0, .methodref 8 14), (0, .nameAndType 15 16), (0, u "cap"), (0, u "(I)Lcom/example/decorum/decorum/graphics/Paint$Cap;"), (0, .methodref 8 18), (0, .nameAndType 19 20), (0, u "join"), (0, u "(I)Lcom/example/decorum/decorum/graphics/Paint$Join;"), (0, .methodref 8 22), (0, .nameAndType 23 24), (0, u "align"), (0, u "(I)Lcom/example/decorum/decorum/graphics/Paint$Align;"), (0, .integer 1048575), (0, .class_ 27), (0, u "com/example/decorum/decorum/graphics/Paint"), (0, .methodref 26 29), (0, .nameAndType 5 30), (0, u "(I)V"), (0, .methodref 26 32), (0, .nameAndType 33 30), (0, u "setColor"), (0, .methodref 26 35), (0, .nameAndType 36 37), (0, u "setStyle"), (0, u "(Lcom/example/decorum/decorum/graphics/Paint$Style;)V"), (0, .methodref 26 39), (0, .nameAndType 40 41), (0, u "setStrokeWidth"), (0, u "(F)V"), (0, .methodref 26 43), (0, .nameAndType 44 45), (0, u "setStrokeCap"), (0, u "(Lcom/example/decorum/decorum/graphics/Paint$Cap;)V"), (0, .methodref 26 47), (0, .nameAndType 48 49), (0, u "setStrokeJoin"), (0, u "(Lcom/example/decorum/decorum/graphics/Paint$Join;)V"), (0, .methodref 26 51), (0, .nameAndType 52 41), (0, u "setTextSize"), (0, .methodref 26 54), (0, .nameAndType 55 56), (0, u "setTextAlign"), (0, u "(Lcom/example/decorum/decorum/graphics/Paint$Align;)V"), (0, .methodref 26 58), (0, .nameAndType 59 60), (0, u "set"), (0, u "(Lcom/example/decorum/decorum/graphics/Paint;)V"), (0, .methodref 26 62), (0, .nameAndType 63 64), (0, u "getFlags"), (0, u "()I"), (0, .methodref 26 66), (0, .nameAndType 67 64), (0, u "getColor"), (0, .methodref 26 69), (0, .nameAndType 70 71), (0, u "getStyle"), (0, u "()Lcom/example/decorum/decorum/graphics/Paint$Style;"), (0, .methodref 26 73), (0, .nameAndType 74 75), (0, u "getStrokeWidth"), (0, u "()F"), (0, .methodref 26 77), (0, .nameAndType 78 79), (0, u "getStrokeCap"), (0, u "()Lcom/example/decorum/decorum/graphics/Paint$Cap;"), (0, .methodref 26 81), (0, .nameAndType 82 83), (0, u "getStrokeJoin"), (0, u "()Lcom/example/decorum/decorum/graphics/Paint$Join;"), (0, .methodref 26 85), (0, .nameAndType 86 87), (0, u "getTypeface"), (0, u "()Lcom/example/decorum/decorum/graphics/Typeface;"), (0, .methodref 26 89), (0, .nameAndType 90 75), (0, u "getTextSize"), (0, .methodref 26 92), (0, .nameAndType 93 94), (0, u "getTextAlign"), (0, u "()Lcom/example/decorum/decorum/graphics/Paint$Align;"), (0, .fieldref 96 97), (0, .class_ 98), (0, .nameAndType 99 100), (0, u "com/example/decorum/decorum/graphics/Paint$Style"), (0, u "STROKE"), (0, u "Lcom/example/decorum/decorum/graphics/Paint$Style;"), (0, .fieldref 96 102), (0, .nameAndType 103 100), (0, u "FILL_AND_STROKE"), (0, .fieldref 96 105), (0, .nameAndType 106 100), (0, u "FILL"), (0, .fieldref 108 109), (0, .class_ 110), (0, .nameAndType 111 112), (0, u "com/example/decorum/decorum/graphics/Paint$Cap"), (0, u "ROUND"), (0, u "Lcom/example/decorum/decorum/graphics/Paint$Cap;"), (0, .fieldref 108 114), (0, .nameAndType 115 112), (0, u "SQUARE"), (0, .fieldref 108 117), (0, .nameAndType 118 112), (0, u "BUTT"), (0, .fieldref 120 121), (0, .class_ 122), (0, .nameAndType 111 123), (0, u "com/example/decorum/decorum/graphics/Paint$Join"), (0, u "Lcom/example/decorum/decorum/graphics/Paint$Join;"), (0, .fieldref 120 125), (0, .nameAndType 126 123), (0, u "BEVEL"), (0, .fieldref 120 128), (0, .nameAndType 129 123), (0, u "MITER"), (0, .fieldref 131 132), (0, .class_ 133), (0, .nameAndType 134 135), (0, u "com/example/decorum/decorum/graphics/Paint$Align"), (0, u "CENTER"), (0, u "Lcom/example/decorum/decorum/graphics/Paint$Align;"), (0, .fieldref 131 137), (0, .nameAndType 138 135), (0, u "RIGHT"), (0, .fieldref 131 140), (0, .nameAndType 141 135), (0, u "LEFT"), (2, u "law"), (0, u "(IIIIII)Z")] 8

def k1m0 : Method := { name := "<init>", desc := "()V", sig := { parameters := [], returnType := none }, accessFlags := 1, code := none }
def k1c1 : Code := { maxStack := 3, maxLocals := 14, code := code, exceptionTable := #[], attributes := #[] }
def k1m1 : Method := { name := "law", desc := "(IIIIII)Z", sig := { parameters := [.int, .int, .int, .int, .int, .int], returnType := some .boolean }, accessFlags := 9, code := some k1c1 }
def k1c2 : Code := { maxStack := 2, maxLocals := 1, code := method_3_code, exceptionTable := #[], attributes := #[] }
def k1m2 : Method := { name := "style", desc := "(I)Lcom/example/decorum/decorum/graphics/Paint$Style;", sig := { parameters := [.int], returnType := some (.object "com/example/decorum/decorum/graphics/Paint$Style") }, accessFlags := 10, code := some k1c2 }
def k1c3 : Code := { maxStack := 2, maxLocals := 1, code := method_4_code, exceptionTable := #[], attributes := #[] }
def k1m3 : Method := { name := "cap", desc := "(I)Lcom/example/decorum/decorum/graphics/Paint$Cap;", sig := { parameters := [.int], returnType := some (.object "com/example/decorum/decorum/graphics/Paint$Cap") }, accessFlags := 10, code := some k1c3 }
def k1c4 : Code := { maxStack := 2, maxLocals := 1, code := method_5_code, exceptionTable := #[], attributes := #[] }
def k1m4 : Method := { name := "join", desc := "(I)Lcom/example/decorum/decorum/graphics/Paint$Join;", sig := { parameters := [.int], returnType := some (.object "com/example/decorum/decorum/graphics/Paint$Join") }, accessFlags := 10, code := some k1c4 }
def k1c5 : Code := { maxStack := 2, maxLocals := 1, code := method_6_code, exceptionTable := #[], attributes := #[] }
def k1m5 : Method := { name := "align", desc := "(I)Lcom/example/decorum/decorum/graphics/Paint$Align;", sig := { parameters := [.int], returnType := some (.object "com/example/decorum/decorum/graphics/Paint$Align") }, accessFlags := 10, code := some k1c5 }
/-- com/example/decorum/decorum/graphics/PaintSetPinLaw -/
def k1 : Class := { plain "com/example/decorum/decorum/graphics/PaintSetPinLaw" (some 0) with
  accessFlags := 49
  interfaces := #[]
  cf := some (fileOf pool1 8 #[] #[{ accessFlags := 1, nameIndex := 5, descriptorIndex := 6, attributes := #[] }, { accessFlags := 9, nameIndex := 144, descriptorIndex := 145, attributes := #[] }, { accessFlags := 10, nameIndex := 11, descriptorIndex := 12, attributes := #[] }, { accessFlags := 10, nameIndex := 15, descriptorIndex := 16, attributes := #[] }, { accessFlags := 10, nameIndex := 19, descriptorIndex := 20, attributes := #[] }, { accessFlags := 10, nameIndex := 23, descriptorIndex := 24, attributes := #[] }] 49 2 #[] #[])
  fields := #[]
  methods := #[k1m0, k1m1, k1m2, k1m3, k1m4, k1m5]
  instanceTypes := #[]
  staticTypes := #[]
  resolved := Array.replicate 154 none
  statics := none }

def pool2 : Array CpInfo := pool [(1, .class_ 2), (0, u "java/lang/constant/Constable"), (0, .class_ 4), (0, u "java/lang/Object")] 6

/-- java/lang/constant/Constable -/
def k2 : Class := { plain "java/lang/constant/Constable" (some 0) with
  accessFlags := 1537
  interfaces := #[]
  cf := some (fileOf pool2 1 #[] #[] 1537 3 #[] #[])
  fields := #[]
  methods := #[]
  instanceTypes := #[]
  staticTypes := #[]
  resolved := Array.replicate 11 none
  statics := none }

def pool3 : Array CpInfo := pool [(1, .class_ 2), (0, u "java/lang/Comparable"), (0, .class_ 4), (0, u "java/lang/Object")] 7

/-- java/lang/Comparable -/
def k3 : Class := { plain "java/lang/Comparable" (some 0) with
  accessFlags := 1537
  interfaces := #[]
  cf := some (fileOf pool3 1 #[] #[] 1537 3 #[] #[])
  fields := #[]
  methods := #[]
  instanceTypes := #[]
  staticTypes := #[]
  resolved := Array.replicate 12 none
  statics := none }

def pool4 : Array CpInfo := pool [(1, .class_ 2), (0, u "java/io/Serializable"), (0, .class_ 4), (0, u "java/lang/Object")] 2

/-- java/io/Serializable -/
def k4 : Class := { plain "java/io/Serializable" (some 0) with
  accessFlags := 1537
  interfaces := #[]
  cf := some (fileOf pool4 1 #[] #[] 1537 3 #[] #[])
  fields := #[]
  methods := #[]
  instanceTypes := #[]
  staticTypes := #[]
  resolved := Array.replicate 7 none
  statics := none }

def pool5 : Array CpInfo := pool [(2, .class_ 4), (1, u "java/lang/Enum"), (0, u "name"), (0, u "Ljava/lang/String;"), (2, u "ordinal"), (0, u "I"), (1, .class_ 14), (1, u "java/lang/Object"), (4, u "hash"), (86, .class_ 108), (1, u "java/lang/Enum$EnumDesc"), (2, .class_ 112), (0, u "java/lang/constant/Constable"), (0, .class_ 114), (0, u "java/lang/Comparable"), (0, .class_ 116), (0, u "java/io/Serializable")] 87

/-- java/lang/Enum -/
def k5 : Class := { plain "java/lang/Enum" (some 0) with
  accessFlags := 1057
  interfaces := #[2, 3, 4]
  cf := some (fileOf pool5 2 #[.nestMembers #[106]] #[] 1057 12 #[111, 113, 115] #[{ accessFlags := 18, nameIndex := 5, descriptorIndex := 6, attributes := #[] }, { accessFlags := 18, nameIndex := 9, descriptorIndex := 10, attributes := #[] }, { accessFlags := 2, nameIndex := 19, descriptorIndex := 10, attributes := #[] }])
  fields := #[{ name := "name", type := (.object "java/lang/String"), accessFlags := 18, slot := 0, constantValue := 0 }, { name := "ordinal", type := .int, accessFlags := 18, slot := 1, constantValue := 0 }, { name := "hash", type := .int, accessFlags := 2, slot := 2, constantValue := 0 }]
  methods := #[]
  instanceTypes := #[(.object "java/lang/String"), .int, .int]
  staticTypes := #[]
  resolved := Array.replicate 204 none
  statics := none }

def pool6 : Array CpInfo := pool [(1, .class_ 2), (0, u "com/example/decorum/decorum/graphics/Paint$Style"), (2, u "FILL"), (0, u "Lcom/example/decorum/decorum/graphics/Paint$Style;"), (2, u "STROKE"), (2, u "FILL_AND_STROKE"), (2, u "$VALUES"), (0, u "[Lcom/example/decorum/decorum/graphics/Paint$Style;"), (6, .class_ 25), (1, u "java/lang/Enum"), (26, .class_ 53), (0, u "com/example/decorum/decorum/graphics/Paint")] 2

/-- com/example/decorum/decorum/graphics/Paint$Style -/
def k6 : Class := { plain "com/example/decorum/decorum/graphics/Paint$Style" (some 5) with
  accessFlags := 16433
  interfaces := #[]
  cf := some (fileOf pool6 1 #[.nestHost 52] #[] 16433 23 #[] #[{ accessFlags := 16409, nameIndex := 5, descriptorIndex := 6, attributes := #[] }, { accessFlags := 16409, nameIndex := 9, descriptorIndex := 6, attributes := #[] }, { accessFlags := 16409, nameIndex := 12, descriptorIndex := 6, attributes := #[] }, { accessFlags := 4122, nameIndex := 15, descriptorIndex := 16, attributes := #[] }])
  fields := #[{ name := "FILL", type := (.object "com/example/decorum/decorum/graphics/Paint$Style"), accessFlags := 16409, slot := 0, constantValue := 0 }, { name := "STROKE", type := (.object "com/example/decorum/decorum/graphics/Paint$Style"), accessFlags := 16409, slot := 1, constantValue := 0 }, { name := "FILL_AND_STROKE", type := (.object "com/example/decorum/decorum/graphics/Paint$Style"), accessFlags := 16409, slot := 2, constantValue := 0 }, { name := "$VALUES", type := (.array (.object "com/example/decorum/decorum/graphics/Paint$Style")), accessFlags := 4122, slot := 3, constantValue := 0 }]
  methods := #[]
  instanceTypes := #[(.object "java/lang/String"), .int, .int]
  staticTypes := #[(.object "com/example/decorum/decorum/graphics/Paint$Style"), (.object "com/example/decorum/decorum/graphics/Paint$Style"), (.object "com/example/decorum/decorum/graphics/Paint$Style"), (.array (.object "com/example/decorum/decorum/graphics/Paint$Style"))]
  resolved := Array.replicate 56 none
  statics := some 0 }

def pool7 : Array CpInfo := pool [(1, .class_ 2), (0, u "com/example/decorum/decorum/graphics/Paint$Cap"), (2, u "BUTT"), (0, u "Lcom/example/decorum/decorum/graphics/Paint$Cap;"), (2, u "ROUND"), (2, u "SQUARE"), (2, u "$VALUES"), (0, u "[Lcom/example/decorum/decorum/graphics/Paint$Cap;"), (6, .class_ 25), (1, u "java/lang/Enum"), (26, .class_ 53), (0, u "com/example/decorum/decorum/graphics/Paint")] 2

/-- com/example/decorum/decorum/graphics/Paint$Cap -/
def k7 : Class := { plain "com/example/decorum/decorum/graphics/Paint$Cap" (some 5) with
  accessFlags := 16433
  interfaces := #[]
  cf := some (fileOf pool7 1 #[.nestHost 52] #[] 16433 23 #[] #[{ accessFlags := 16409, nameIndex := 5, descriptorIndex := 6, attributes := #[] }, { accessFlags := 16409, nameIndex := 9, descriptorIndex := 6, attributes := #[] }, { accessFlags := 16409, nameIndex := 12, descriptorIndex := 6, attributes := #[] }, { accessFlags := 4122, nameIndex := 15, descriptorIndex := 16, attributes := #[] }])
  fields := #[{ name := "BUTT", type := (.object "com/example/decorum/decorum/graphics/Paint$Cap"), accessFlags := 16409, slot := 0, constantValue := 0 }, { name := "ROUND", type := (.object "com/example/decorum/decorum/graphics/Paint$Cap"), accessFlags := 16409, slot := 1, constantValue := 0 }, { name := "SQUARE", type := (.object "com/example/decorum/decorum/graphics/Paint$Cap"), accessFlags := 16409, slot := 2, constantValue := 0 }, { name := "$VALUES", type := (.array (.object "com/example/decorum/decorum/graphics/Paint$Cap")), accessFlags := 4122, slot := 3, constantValue := 0 }]
  methods := #[]
  instanceTypes := #[(.object "java/lang/String"), .int, .int]
  staticTypes := #[(.object "com/example/decorum/decorum/graphics/Paint$Cap"), (.object "com/example/decorum/decorum/graphics/Paint$Cap"), (.object "com/example/decorum/decorum/graphics/Paint$Cap"), (.array (.object "com/example/decorum/decorum/graphics/Paint$Cap"))]
  resolved := Array.replicate 56 none
  statics := some 1 }

def pool8 : Array CpInfo := pool [(1, .class_ 2), (0, u "com/example/decorum/decorum/graphics/Paint$Join"), (2, u "MITER"), (0, u "Lcom/example/decorum/decorum/graphics/Paint$Join;"), (2, u "ROUND"), (2, u "BEVEL"), (2, u "$VALUES"), (0, u "[Lcom/example/decorum/decorum/graphics/Paint$Join;"), (6, .class_ 25), (1, u "java/lang/Enum"), (26, .class_ 53), (0, u "com/example/decorum/decorum/graphics/Paint")] 2

/-- com/example/decorum/decorum/graphics/Paint$Join -/
def k8 : Class := { plain "com/example/decorum/decorum/graphics/Paint$Join" (some 5) with
  accessFlags := 16433
  interfaces := #[]
  cf := some (fileOf pool8 1 #[.nestHost 52] #[] 16433 23 #[] #[{ accessFlags := 16409, nameIndex := 5, descriptorIndex := 6, attributes := #[] }, { accessFlags := 16409, nameIndex := 9, descriptorIndex := 6, attributes := #[] }, { accessFlags := 16409, nameIndex := 12, descriptorIndex := 6, attributes := #[] }, { accessFlags := 4122, nameIndex := 15, descriptorIndex := 16, attributes := #[] }])
  fields := #[{ name := "MITER", type := (.object "com/example/decorum/decorum/graphics/Paint$Join"), accessFlags := 16409, slot := 0, constantValue := 0 }, { name := "ROUND", type := (.object "com/example/decorum/decorum/graphics/Paint$Join"), accessFlags := 16409, slot := 1, constantValue := 0 }, { name := "BEVEL", type := (.object "com/example/decorum/decorum/graphics/Paint$Join"), accessFlags := 16409, slot := 2, constantValue := 0 }, { name := "$VALUES", type := (.array (.object "com/example/decorum/decorum/graphics/Paint$Join")), accessFlags := 4122, slot := 3, constantValue := 0 }]
  methods := #[]
  instanceTypes := #[(.object "java/lang/String"), .int, .int]
  staticTypes := #[(.object "com/example/decorum/decorum/graphics/Paint$Join"), (.object "com/example/decorum/decorum/graphics/Paint$Join"), (.object "com/example/decorum/decorum/graphics/Paint$Join"), (.array (.object "com/example/decorum/decorum/graphics/Paint$Join"))]
  resolved := Array.replicate 56 none
  statics := some 2 }

def pool9 : Array CpInfo := pool [(1, .class_ 2), (0, u "com/example/decorum/decorum/graphics/Paint$Align"), (2, u "LEFT"), (0, u "Lcom/example/decorum/decorum/graphics/Paint$Align;"), (2, u "CENTER"), (2, u "RIGHT"), (2, u "$VALUES"), (0, u "[Lcom/example/decorum/decorum/graphics/Paint$Align;"), (6, .class_ 25), (1, u "java/lang/Enum"), (26, .class_ 53), (0, u "com/example/decorum/decorum/graphics/Paint")] 2

/-- com/example/decorum/decorum/graphics/Paint$Align -/
def k9 : Class := { plain "com/example/decorum/decorum/graphics/Paint$Align" (some 5) with
  accessFlags := 16433
  interfaces := #[]
  cf := some (fileOf pool9 1 #[.nestHost 52] #[] 16433 23 #[] #[{ accessFlags := 16409, nameIndex := 5, descriptorIndex := 6, attributes := #[] }, { accessFlags := 16409, nameIndex := 9, descriptorIndex := 6, attributes := #[] }, { accessFlags := 16409, nameIndex := 12, descriptorIndex := 6, attributes := #[] }, { accessFlags := 4122, nameIndex := 15, descriptorIndex := 16, attributes := #[] }])
  fields := #[{ name := "LEFT", type := (.object "com/example/decorum/decorum/graphics/Paint$Align"), accessFlags := 16409, slot := 0, constantValue := 0 }, { name := "CENTER", type := (.object "com/example/decorum/decorum/graphics/Paint$Align"), accessFlags := 16409, slot := 1, constantValue := 0 }, { name := "RIGHT", type := (.object "com/example/decorum/decorum/graphics/Paint$Align"), accessFlags := 16409, slot := 2, constantValue := 0 }, { name := "$VALUES", type := (.array (.object "com/example/decorum/decorum/graphics/Paint$Align")), accessFlags := 4122, slot := 3, constantValue := 0 }]
  methods := #[]
  instanceTypes := #[(.object "java/lang/String"), .int, .int]
  staticTypes := #[(.object "com/example/decorum/decorum/graphics/Paint$Align"), (.object "com/example/decorum/decorum/graphics/Paint$Align"), (.object "com/example/decorum/decorum/graphics/Paint$Align"), (.array (.object "com/example/decorum/decorum/graphics/Paint$Align"))]
  resolved := Array.replicate 56 none
  statics := some 3 }

def pool10 : Array CpInfo := pool [(1, .class_ 2), (0, u "com/example/decorum/decorum/graphics/Paint"), (2, u "<init>"), (0, u "(I)V"), (0, .methodref 8 9), (0, .class_ 10), (0, .nameAndType 5 11), (0, u "java/lang/Object"), (0, u "()V"), (0, .fieldref 1 13), (0, .nameAndType 14 15), (0, u "flags"), (0, u "I"), (2, .integer 4278190080), (0, .fieldref 1 20), (0, .nameAndType 21 15), (0, u "color"), (0, .fieldref 23 24), (0, .class_ 25), (0, .nameAndType 26 27), (0, u "com/example/decorum/decorum/graphics/Paint$Style"), (0, u "FILL"), (0, u "Lcom/example/decorum/decorum/graphics/Paint$Style;"), (0, .fieldref 1 29), (0, .nameAndType 30 27), (0, u "style"), (0, .fieldref 32 33), (0, .class_ 34), (0, .nameAndType 35 36), (0, u "com/example/decorum/decorum/graphics/Paint$Cap"), (0, u "BUTT"), (0, u "Lcom/example/decorum/decorum/graphics/Paint$Cap;"), (0, .fieldref 1 38), (0, .nameAndType 39 36), (0, u "strokeCap"), (0, .fieldref 41 42), (0, .class_ 43), (0, .nameAndType 44 45), (0, u "com/example/decorum/decorum/graphics/Paint$Join"), (0, u "MITER"), (0, u "Lcom/example/decorum/decorum/graphics/Paint$Join;"), (0, .fieldref 1 47), (0, .nameAndType 48 45), (0, u "strokeJoin"), (0, .fieldref 50 51), (0, .class_ 52), (0, .nameAndType 53 54), (0, u "com/example/decorum/decorum/graphics/Typeface"), (0, u "DEFAULT"), (0, u "Lcom/example/decorum/decorum/graphics/Typeface;"), (0, .fieldref 1 56), (0, .nameAndType 57 54), (0, u "typeface"), (0, .float 1094713344), (0, .fieldref 1 60), (0, .nameAndType 61 62), (0, u "textSize"), (0, u "F"), (0, .fieldref 64 65), (0, .class_ 66), (0, .nameAndType 67 68), (0, u "com/example/decorum/decorum/graphics/Paint$Align"), (0, u "LEFT"), (0, u "Lcom/example/decorum/decorum/graphics/Paint$Align;"), (0, .fieldref 1 70), (0, .nameAndType 71 68), (0, u "textAlign"), (2, u "set"), (0, u "(Lcom/example/decorum/decorum/graphics/Paint;)V"), (0, .fieldref 1 77), (0, .nameAndType 78 62), (0, u "strokeWidth"), (6, u "setColor"), (14, .string 30), (0, .methodref 102 103), (0, .class_ 104), (0, .nameAndType 105 106), (0, u "java/util/Objects"), (0, u "requireNonNull"), (0, u "(Ljava/lang/Object;Ljava/lang/String;)Ljava/lang/Object;"), (2, .float 2139095040), (0, .string 111), (0, u "cap"), (0, .string 113), (0, u "join"), (0, .string 115), (0, u "align"), (5, u "()I"), (9, .class_ 133), (1, u "com/example/decorum/decorum/graphics/Paint$GlyphRun"), (11, .class_ 146), (0, u "com/example/decorum/decorum/graphics/Paint$FontMetricsInt"), (181, u "ANTI_ALIAS_FLAG"), (4, u "getFlags"), (5, u "getColor"), (3, u "getStyle"), (0, u "()Lcom/example/decorum/decorum/graphics/Paint$Style;"), (0, u "setStyle"), (0, u "(Lcom/example/decorum/decorum/graphics/Paint$Style;)V"), (0, u "getStrokeWidth"), (0, u "()F"), (0, u "setStrokeWidth"), (0, u "(F)V"), (0, u "getStrokeCap"), (0, u "()Lcom/example/decorum/decorum/graphics/Paint$Cap;"), (0, u "setStrokeCap"), (0, u "(Lcom/example/decorum/decorum/graphics/Paint$Cap;)V"), (0, u "getStrokeJoin"), (0, u "()Lcom/example/decorum/decorum/graphics/Paint$Join;"), (0, u "setStrokeJoin"), (0, u "(Lcom/example/decorum/decorum/graphics/Paint$Join;)V"), (0, u "getTypeface"), (0, u "()Lcom/example/decorum/decorum/graphics/Typeface;"), (2, u "getTextSize"), (0, u "setTextSize"), (0, u "getTextAlign"), (0, u "()Lcom/example/decorum/decorum/graphics/Paint$Align;"), (0, u "setTextAlign"), (0, u "(Lcom/example/decorum/decorum/graphics/Paint$Align;)V")] 42

def k10m0 : Method := { name := "<init>", desc := "()V", sig := { parameters := [], returnType := none }, accessFlags := 1, code := none }
def k10c1 : Code := { maxStack := 2, maxLocals := 2, code := prog_74_method_2_code, exceptionTable := #[], attributes := #[] }
def k10m1 : Method := { name := "<init>", desc := "(I)V", sig := { parameters := [.int], returnType := none }, accessFlags := 1, code := some k10c1 }
def k10c2 : Code := { maxStack := 2, maxLocals := 2, code := prog_74_method_4_code, exceptionTable := #[], attributes := #[] }
def k10m2 : Method := { name := "set", desc := "(Lcom/example/decorum/decorum/graphics/Paint;)V", sig := { parameters := [(.object "com/example/decorum/decorum/graphics/Paint")], returnType := none }, accessFlags := 1, code := some k10c2 }
def k10c3 : Code := { maxStack := 1, maxLocals := 1, code := prog_74_method_5_code, exceptionTable := #[], attributes := #[] }
def k10m3 : Method := { name := "getFlags", desc := "()I", sig := { parameters := [], returnType := some .int }, accessFlags := 1, code := some k10c3 }
def k10c4 : Code := { maxStack := 1, maxLocals := 1, code := prog_74_method_9_code, exceptionTable := #[], attributes := #[] }
def k10m4 : Method := { name := "getColor", desc := "()I", sig := { parameters := [], returnType := some .int }, accessFlags := 1, code := some k10c4 }
def k10c5 : Code := { maxStack := 2, maxLocals := 2, code := prog_74_method_10_code, exceptionTable := #[], attributes := #[] }
def k10m5 : Method := { name := "setColor", desc := "(I)V", sig := { parameters := [.int], returnType := none }, accessFlags := 1, code := some k10c5 }
def k10c6 : Code := { maxStack := 1, maxLocals := 1, code := prog_74_method_14_code, exceptionTable := #[], attributes := #[] }
def k10m6 : Method := { name := "getStyle", desc := "()Lcom/example/decorum/decorum/graphics/Paint$Style;", sig := { parameters := [], returnType := some (.object "com/example/decorum/decorum/graphics/Paint$Style") }, accessFlags := 1, code := some k10c6 }
def k10c7 : Code := { maxStack := 3, maxLocals := 2, code := prog_74_method_15_code, exceptionTable := #[], attributes := #[] }
def k10m7 : Method := { name := "setStyle", desc := "(Lcom/example/decorum/decorum/graphics/Paint$Style;)V", sig := { parameters := [(.object "com/example/decorum/decorum/graphics/Paint$Style")], returnType := none }, accessFlags := 1, code := some k10c7 }
def k10c8 : Code := { maxStack := 1, maxLocals := 1, code := prog_74_method_16_code, exceptionTable := #[], attributes := #[] }
def k10m8 : Method := { name := "getStrokeWidth", desc := "()F", sig := { parameters := [], returnType := some .float }, accessFlags := 1, code := some k10c8 }
def k10c9 : Code := { maxStack := 2, maxLocals := 2, code := prog_74_method_17_code, exceptionTable := #[], attributes := #[] }
def k10m9 : Method := { name := "setStrokeWidth", desc := "(F)V", sig := { parameters := [.float], returnType := none }, accessFlags := 1, code := some k10c9 }
def k10c10 : Code := { maxStack := 1, maxLocals := 1, code := prog_74_method_18_code, exceptionTable := #[], attributes := #[] }
def k10m10 : Method := { name := "getStrokeCap", desc := "()Lcom/example/decorum/decorum/graphics/Paint$Cap;", sig := { parameters := [], returnType := some (.object "com/example/decorum/decorum/graphics/Paint$Cap") }, accessFlags := 1, code := some k10c10 }
def k10c11 : Code := { maxStack := 3, maxLocals := 2, code := prog_74_method_19_code, exceptionTable := #[], attributes := #[] }
def k10m11 : Method := { name := "setStrokeCap", desc := "(Lcom/example/decorum/decorum/graphics/Paint$Cap;)V", sig := { parameters := [(.object "com/example/decorum/decorum/graphics/Paint$Cap")], returnType := none }, accessFlags := 1, code := some k10c11 }
def k10c12 : Code := { maxStack := 1, maxLocals := 1, code := prog_74_method_20_code, exceptionTable := #[], attributes := #[] }
def k10m12 : Method := { name := "getStrokeJoin", desc := "()Lcom/example/decorum/decorum/graphics/Paint$Join;", sig := { parameters := [], returnType := some (.object "com/example/decorum/decorum/graphics/Paint$Join") }, accessFlags := 1, code := some k10c12 }
def k10c13 : Code := { maxStack := 3, maxLocals := 2, code := prog_74_method_21_code, exceptionTable := #[], attributes := #[] }
def k10m13 : Method := { name := "setStrokeJoin", desc := "(Lcom/example/decorum/decorum/graphics/Paint$Join;)V", sig := { parameters := [(.object "com/example/decorum/decorum/graphics/Paint$Join")], returnType := none }, accessFlags := 1, code := some k10c13 }
def k10c14 : Code := { maxStack := 1, maxLocals := 1, code := prog_74_method_22_code, exceptionTable := #[], attributes := #[] }
def k10m14 : Method := { name := "getTypeface", desc := "()Lcom/example/decorum/decorum/graphics/Typeface;", sig := { parameters := [], returnType := some (.object "com/example/decorum/decorum/graphics/Typeface") }, accessFlags := 1, code := some k10c14 }
def k10c15 : Code := { maxStack := 1, maxLocals := 1, code := prog_74_method_24_code, exceptionTable := #[], attributes := #[] }
def k10m15 : Method := { name := "getTextSize", desc := "()F", sig := { parameters := [], returnType := some .float }, accessFlags := 1, code := some k10c15 }
def k10c16 : Code := { maxStack := 2, maxLocals := 2, code := prog_74_method_25_code, exceptionTable := #[], attributes := #[] }
def k10m16 : Method := { name := "setTextSize", desc := "(F)V", sig := { parameters := [.float], returnType := none }, accessFlags := 1, code := some k10c16 }
def k10c17 : Code := { maxStack := 1, maxLocals := 1, code := prog_74_method_26_code, exceptionTable := #[], attributes := #[] }
def k10m17 : Method := { name := "getTextAlign", desc := "()Lcom/example/decorum/decorum/graphics/Paint$Align;", sig := { parameters := [], returnType := some (.object "com/example/decorum/decorum/graphics/Paint$Align") }, accessFlags := 1, code := some k10c17 }
def k10c18 : Code := { maxStack := 3, maxLocals := 2, code := prog_74_method_27_code, exceptionTable := #[], attributes := #[] }
def k10m18 : Method := { name := "setTextAlign", desc := "(Lcom/example/decorum/decorum/graphics/Paint$Align;)V", sig := { parameters := [(.object "com/example/decorum/decorum/graphics/Paint$Align")], returnType := none }, accessFlags := 1, code := some k10c18 }
/-- com/example/decorum/decorum/graphics/Paint -/
def k10 : Class := { plain "com/example/decorum/decorum/graphics/Paint" (some 0) with
  accessFlags := 33
  interfaces := #[]
  cf := some (fileOf pool10 1 #[.nestMembers #[131, 145, 64, 41, 32, 23]] #[{ accessFlags := 1, nameIndex := 5, descriptorIndex := 11, attributes := #[] }, { accessFlags := 1, nameIndex := 5, descriptorIndex := 6, attributes := #[] }, { accessFlags := 1, nameIndex := 74, descriptorIndex := 75, attributes := #[] }, { accessFlags := 1, nameIndex := 333, descriptorIndex := 121, attributes := #[] }, { accessFlags := 1, nameIndex := 339, descriptorIndex := 121, attributes := #[] }, { accessFlags := 1, nameIndex := 85, descriptorIndex := 6, attributes := #[] }, { accessFlags := 1, nameIndex := 343, descriptorIndex := 344, attributes := #[] }, { accessFlags := 1, nameIndex := 345, descriptorIndex := 346, attributes := #[] }, { accessFlags := 1, nameIndex := 347, descriptorIndex := 348, attributes := #[] }, { accessFlags := 1, nameIndex := 349, descriptorIndex := 350, attributes := #[] }, { accessFlags := 1, nameIndex := 351, descriptorIndex := 352, attributes := #[] }, { accessFlags := 1, nameIndex := 353, descriptorIndex := 354, attributes := #[] }, { accessFlags := 1, nameIndex := 355, descriptorIndex := 356, attributes := #[] }, { accessFlags := 1, nameIndex := 357, descriptorIndex := 358, attributes := #[] }, { accessFlags := 1, nameIndex := 359, descriptorIndex := 360, attributes := #[] }, { accessFlags := 1, nameIndex := 363, descriptorIndex := 348, attributes := #[] }, { accessFlags := 1, nameIndex := 364, descriptorIndex := 350, attributes := #[] }, { accessFlags := 1, nameIndex := 365, descriptorIndex := 366, attributes := #[] }, { accessFlags := 1, nameIndex := 367, descriptorIndex := 368, attributes := #[] }] 33 8 #[] #[{ accessFlags := 25, nameIndex := 328, descriptorIndex := 15, attributes := #[] }, { accessFlags := 2, nameIndex := 14, descriptorIndex := 15, attributes := #[] }, { accessFlags := 2, nameIndex := 21, descriptorIndex := 15, attributes := #[] }, { accessFlags := 2, nameIndex := 30, descriptorIndex := 27, attributes := #[] }, { accessFlags := 2, nameIndex := 78, descriptorIndex := 62, attributes := #[] }, { accessFlags := 2, nameIndex := 39, descriptorIndex := 36, attributes := #[] }, { accessFlags := 2, nameIndex := 48, descriptorIndex := 45, attributes := #[] }, { accessFlags := 2, nameIndex := 57, descriptorIndex := 54, attributes := #[] }, { accessFlags := 2, nameIndex := 61, descriptorIndex := 62, attributes := #[] }, { accessFlags := 2, nameIndex := 71, descriptorIndex := 68, attributes := #[] }])
  fields := #[{ name := "ANTI_ALIAS_FLAG", type := .int, accessFlags := 25, slot := 0, constantValue := 0 }, { name := "flags", type := .int, accessFlags := 2, slot := 0, constantValue := 0 }, { name := "color", type := .int, accessFlags := 2, slot := 1, constantValue := 0 }, { name := "style", type := (.object "com/example/decorum/decorum/graphics/Paint$Style"), accessFlags := 2, slot := 2, constantValue := 0 }, { name := "strokeWidth", type := .float, accessFlags := 2, slot := 3, constantValue := 0 }, { name := "strokeCap", type := (.object "com/example/decorum/decorum/graphics/Paint$Cap"), accessFlags := 2, slot := 4, constantValue := 0 }, { name := "strokeJoin", type := (.object "com/example/decorum/decorum/graphics/Paint$Join"), accessFlags := 2, slot := 5, constantValue := 0 }, { name := "typeface", type := (.object "com/example/decorum/decorum/graphics/Typeface"), accessFlags := 2, slot := 6, constantValue := 0 }, { name := "textSize", type := .float, accessFlags := 2, slot := 7, constantValue := 0 }, { name := "textAlign", type := (.object "com/example/decorum/decorum/graphics/Paint$Align"), accessFlags := 2, slot := 8, constantValue := 0 }]
  methods := #[k10m0, k10m1, k10m2, k10m3, k10m4, k10m5, k10m6, k10m7, k10m8, k10m9, k10m10, k10m11, k10m12, k10m13, k10m14, k10m15, k10m16, k10m17, k10m18]
  instanceTypes := #[.int, .int, (.object "com/example/decorum/decorum/graphics/Paint$Style"), .float, (.object "com/example/decorum/decorum/graphics/Paint$Cap"), (.object "com/example/decorum/decorum/graphics/Paint$Join"), (.object "com/example/decorum/decorum/graphics/Typeface"), .float, (.object "com/example/decorum/decorum/graphics/Paint$Align")]
  staticTypes := #[.int]
  resolved := Array.replicate 411 none
  statics := none }

def pool11 : Array CpInfo := pool [(2, .class_ 4), (1, u "java/lang/Object"), (3, .class_ 10), (1, u "com/example/decorum/decorum/graphics/Typeface"), (0, u "resource"), (0, u "Ljava/lang/String;"), (2, u "font"), (0, u "Lcom/example/decorum/decorum/graphics/FontFile;"), (60, u "DEFAULT"), (0, u "Lcom/example/decorum/decorum/graphics/Typeface;")] 26

/-- com/example/decorum/decorum/graphics/Typeface -/
def k11 : Class := { plain "com/example/decorum/decorum/graphics/Typeface" (some 0) with
  accessFlags := 33
  interfaces := #[]
  cf := some (fileOf pool11 8 #[] #[] 33 2 #[] #[{ accessFlags := 25, nameIndex := 77, descriptorIndex := 78, attributes := #[] }, { accessFlags := 18, nameIndex := 11, descriptorIndex := 12, attributes := #[] }, { accessFlags := 2, nameIndex := 15, descriptorIndex := 16, attributes := #[] }])
  fields := #[{ name := "DEFAULT", type := (.object "com/example/decorum/decorum/graphics/Typeface"), accessFlags := 25, slot := 0, constantValue := 0 }, { name := "resource", type := (.object "java/lang/String"), accessFlags := 18, slot := 0, constantValue := 0 }, { name := "font", type := (.object "com/example/decorum/decorum/graphics/FontFile"), accessFlags := 2, slot := 1, constantValue := 0 }]
  methods := #[]
  instanceTypes := #[(.object "java/lang/String"), (.object "com/example/decorum/decorum/graphics/FontFile")]
  staticTypes := #[(.object "com/example/decorum/decorum/graphics/Typeface")]
  resolved := Array.replicate 105 none
  statics := some 4 }

def pool12 : Array CpInfo := pool [(2, .class_ 4), (1, u "java/lang/CharSequence"), (42, .class_ 48), (0, u "java/lang/CharSequence$1CodePointIterator"), (10, .class_ 60), (0, u "java/lang/CharSequence$1CharIterator"), (5, .class_ 67), (0, u "java/lang/Object")] 63

/-- java/lang/CharSequence -/
def k12 : Class := { plain "java/lang/CharSequence" (some 0) with
  accessFlags := 1537
  interfaces := #[]
  cf := some (fileOf pool12 2 #[.nestMembers #[47, 59]] #[] 1537 66 #[] #[])
  fields := #[]
  methods := #[]
  instanceTypes := #[]
  staticTypes := #[]
  resolved := Array.replicate 131 none
  statics := none }

def pool13 : Array CpInfo := pool [(1, .class_ 2), (0, u "java/lang/constant/ConstantDesc"), (0, .class_ 4), (0, u "java/lang/Object")] 32

/-- java/lang/constant/ConstantDesc -/
def k13 : Class := { plain "java/lang/constant/ConstantDesc" (some 0) with
  accessFlags := 1537
  interfaces := #[]
  cf := some (fileOf pool13 1 #[] #[] 1537 3 #[] #[])
  fields := #[]
  methods := #[]
  instanceTypes := #[]
  staticTypes := #[]
  resolved := Array.replicate 37 none
  statics := none }

def pool14 : Array CpInfo := pool [(2, .class_ 4), (1, u "java/lang/Object"), (0, u "<init>"), (0, u "()V"), (3, .class_ 12), (1, u "java/lang/String"), (0, u "value"), (0, u "[B"), (2, u "coder"), (0, u "B"), (2, u "hash"), (0, u "I"), (2, u "hashIsZero"), (0, u "Z"), (13, u "COMPACT_STRINGS"), (534, .class_ 576), (0, u "java/lang/CharSequence"), (22, u "CASE_INSENSITIVE_ORDER"), (0, u "Ljava/util/Comparator;"), (500, u "serialPersistentFields"), (0, u "[Ljava/io/ObjectStreamField;"), (0, .class_ 1104), (0, u "java/lang/String$CaseInsensitiveComparator"), (1, .class_ 1107), (0, u "java/io/Serializable"), (0, .class_ 1109), (0, u "java/lang/Comparable"), (0, .class_ 1111), (0, u "java/lang/constant/Constable"), (0, .class_ 1113), (0, u "java/lang/constant/ConstantDesc"), (2, u "serialVersionUID"), (0, u "J"), (3, u "REPL"), (0, u "C"), (2, u "LATIN1"), (1, u "UTF16")] 323

def k14m0 : Method := { name := "<init>", desc := "()V", sig := { parameters := [], returnType := none }, accessFlags := 1, code := none }
/-- java/lang/String -/
def k14 : Class := { plain "java/lang/String" (some 0) with
  accessFlags := 49
  interfaces := #[4, 3, 12, 2, 13]
  cf := some (fileOf pool14 10 #[.nestMembers #[1103]] #[{ accessFlags := 1, nameIndex := 5, descriptorIndex := 6, attributes := #[] }] 49 2 #[1106, 1108, 575, 1110, 1112] #[{ accessFlags := 18, nameIndex := 13, descriptorIndex := 14, attributes := #[] }, { accessFlags := 18, nameIndex := 17, descriptorIndex := 18, attributes := #[] }, { accessFlags := 2, nameIndex := 21, descriptorIndex := 22, attributes := #[] }, { accessFlags := 2, nameIndex := 25, descriptorIndex := 26, attributes := #[] }, { accessFlags := 26, nameIndex := 1116, descriptorIndex := 1117, attributes := #[] }, { accessFlags := 24, nameIndex := 40, descriptorIndex := 26, attributes := #[] }, { accessFlags := 26, nameIndex := 1101, descriptorIndex := 1102, attributes := #[] }, { accessFlags := 26, nameIndex := 1121, descriptorIndex := 1122, attributes := #[] }, { accessFlags := 25, nameIndex := 599, descriptorIndex := 600, attributes := #[] }, { accessFlags := 24, nameIndex := 1125, descriptorIndex := 18, attributes := #[] }, { accessFlags := 24, nameIndex := 1127, descriptorIndex := 18, attributes := #[] }])
  fields := #[{ name := "value", type := (.array .byte), accessFlags := 18, slot := 0, constantValue := 0 }, { name := "coder", type := .byte, accessFlags := 18, slot := 1, constantValue := 0 }, { name := "hash", type := .int, accessFlags := 2, slot := 2, constantValue := 0 }, { name := "hashIsZero", type := .boolean, accessFlags := 2, slot := 3, constantValue := 0 }, { name := "serialVersionUID", type := .long, accessFlags := 26, slot := 0, constantValue := 0 }, { name := "COMPACT_STRINGS", type := .boolean, accessFlags := 24, slot := 1, constantValue := 0 }, { name := "serialPersistentFields", type := (.array (.object "java/io/ObjectStreamField")), accessFlags := 26, slot := 2, constantValue := 0 }, { name := "REPL", type := .char, accessFlags := 26, slot := 3, constantValue := 0 }, { name := "CASE_INSENSITIVE_ORDER", type := (.object "java/util/Comparator"), accessFlags := 25, slot := 4, constantValue := 0 }, { name := "LATIN1", type := .byte, accessFlags := 24, slot := 5, constantValue := 0 }, { name := "UTF16", type := .byte, accessFlags := 24, slot := 6, constantValue := 0 }]
  methods := #[k14m0]
  instanceTypes := #[(.array .byte), .byte, .int, .boolean]
  staticTypes := #[.long, .boolean, (.array (.object "java/io/ObjectStreamField")), .char, (.object "java/util/Comparator"), .byte, .byte]
  resolved := Array.replicate 1451 none
  statics := none }

def pool15 : Array CpInfo := pool [(2, .class_ 4), (1, u "java/lang/Object"), (0, u "<init>"), (0, u "()V"), (35, .class_ 44), (1, u "java/util/Objects"), (0, u "requireNonNull"), (48, u "(Ljava/lang/Object;Ljava/lang/String;)Ljava/lang/Object;")] 89

def k15m0 : Method := { name := "<init>", desc := "()V", sig := { parameters := [], returnType := none }, accessFlags := 2, code := none }
def k15c1 : Code := { maxStack := 3, maxLocals := 2, code := jdk_31_method_11_code, exceptionTable := #[], attributes := #[] }
def k15m1 : Method := { name := "requireNonNull", desc := "(Ljava/lang/Object;Ljava/lang/String;)Ljava/lang/Object;", sig := { parameters := [(.object "java/lang/Object"), (.object "java/lang/String")], returnType := some (.object "java/lang/Object") }, accessFlags := 9, code := some k15c1 }
/-- java/util/Objects -/
def k15 : Class := { plain "java/util/Objects" (some 0) with
  accessFlags := 49
  interfaces := #[]
  cf := some (fileOf pool15 42 #[] #[{ accessFlags := 2, nameIndex := 5, descriptorIndex := 6, attributes := #[] }, { accessFlags := 9, nameIndex := 45, descriptorIndex := 94, attributes := #[] }] 49 2 #[] #[])
  fields := #[]
  methods := #[k15m0, k15m1]
  instanceTypes := #[]
  staticTypes := #[]
  resolved := Array.replicate 184 none
  statics := none }

def pool16 : Array CpInfo := pool [(1, u "java/lang/Cloneable"), (0, .class_ 1), (0, u "java/lang/Object"), (0, .class_ 3)] 3

/-- java/lang/Cloneable -/
def k16 : Class := { plain "java/lang/Cloneable" (some 0) with
  accessFlags := 1537
  interfaces := #[]
  cf := some (fileOf pool16 2 #[] #[] 1537 4 #[] #[])
  fields := #[]
  methods := #[]
  instanceTypes := #[]
  staticTypes := #[]
  resolved := Array.replicate 8 none
  statics := none }

/-- the primitive byte -/
def k17 : Class := { plain "byte" none with kind := .primitive 'B', accessFlags := 0x411 }
/-- [B -/
def k18 : Class := { plain "[B" (some 0) with kind := .array 17 .byte, interfaces := #[16, 4], accessFlags := 1041 }

/-- the primitive int -/
def k19 : Class := { plain "int" none with kind := .primitive 'I', accessFlags := 0x411 }
/-- [I -/
def k20 : Class := { plain "[I" (some 0) with kind := .array 19 .int, interfaces := #[16, 4], accessFlags := 1041 }

def heap : Heap := #[{ cls := 6, slots := #[.ref 6, .ref 5, .ref 7, .null], vm := .statics 6 },
  { cls := 7, slots := #[.ref 8, .ref 9, .ref 10, .null], vm := .statics 7 },
  { cls := 8, slots := #[.ref 11, .ref 12, .ref 13, .null], vm := .statics 8 },
  { cls := 9, slots := #[.ref 14, .ref 15, .ref 16, .null], vm := .statics 9 },
  { cls := 11, slots := #[.ref 17], vm := .statics 11 },
  { cls := 6, slots := #[.null, .int 0, .int 0], vm := .none },
  { cls := 6, slots := #[.null, .int 0, .int 0], vm := .none },
  { cls := 6, slots := #[.null, .int 0, .int 0], vm := .none },
  { cls := 7, slots := #[.null, .int 0, .int 0], vm := .none },
  { cls := 7, slots := #[.null, .int 0, .int 0], vm := .none },
  { cls := 7, slots := #[.null, .int 0, .int 0], vm := .none },
  { cls := 8, slots := #[.null, .int 0, .int 0], vm := .none },
  { cls := 8, slots := #[.null, .int 0, .int 0], vm := .none },
  { cls := 8, slots := #[.null, .int 0, .int 0], vm := .none },
  { cls := 9, slots := #[.null, .int 0, .int 0], vm := .none },
  { cls := 9, slots := #[.null, .int 0, .int 0], vm := .none },
  { cls := 9, slots := #[.null, .int 0, .int 0], vm := .none },
  { cls := 11, slots := #[.null, .null], vm := .none }]
def classes : Array Class := #[k0, k1, k2, k3, k4, k5, k6, k7, k8, k9, k10, k11, k12, k13, k14, k15, k16, k17, k18, k19, k20]
def interned : List (Array UInt16 × Addr) := []
def slotsUsed : Nat := 55
def theMethod : MethodId := ⟨1, 1⟩
def args0 : Array Value := #[.int 5, .int 5, .int 5, .int 5, .int 5, .int 5]
def aboutOver (below : List Frame) : State where
  vm := { classes := classes, interned := interned.toArray }
  heap := heap
  slotsUsed := slotsUsed
  threads := #[{ frames := .invoking theMethod args0 :: below }]
def below0 : List Frame := [.native { method := ⟨0, 0⟩, args := #[] }]
def about1 : State := aboutOver below0
def p0 : Program := .bare "" "" ""
def e0 : Env := launch0.env 0 0 0
theorem w_frames : about1.frames = Frame.invoking theMethod args0 :: below0 := rfl
set_option maxRecDepth 65536 in
theorem w_args : argsFit about1.vm theMethod args0 = true := by decide +kernel
set_option maxRecDepth 65536 in
theorem w_heap : heapFits about1 = true := by decide +kernel
set_option maxRecDepth 65536 in
theorem w_runnable : about1.curStatus? = some .runnable := by decide +kernel
set_option maxRecDepth 65536 in
theorem w_alone : about1.alone = true := by decide +kernel
set_option maxRecDepth 65536 in
theorem w_named : about1.methodNamed? x = some theMethod := by decide +kernel
set_option maxRecDepth 65536 in
theorem w_hears : about1.hears theMethod below0 = true := by decide +kernel
set_option maxRecDepth 65536 in
theorem w_ripe : about1.ripe theMethod args0 below0 = true := by decide +kernel
theorem w_running : about1.status = .running := rfl
set_option maxRecDepth 65536 in
theorem w_room : about1.hasRoom e0.platform room_1 = true :=
  launch0.hasRoom_least _ room_1 (by decide +kernel) (by decide +kernel) (by decide +kernel) (by decide +kernel) (by decide +kernel) (by decide +kernel)
theorem allAtoms_all (ts : List Jvm.Cond) (a : Array Jvm.Value) (st : Jvm.State) : (allAtoms ts).before a st = ts.all (fun c => c.before a st) := by
  induction ts with
  | nil => rfl
  | cons c t ih =>
    show (Jvm.Cond.and c (allAtoms t)).before a st = _
    rw [Jvm.Cond.before_and, ih, List.all_cons]
def words1 : List Jvm.Cond := Jvm.Cond.code x code maxLocals ret :: tables_1
/-- a 'code' word, met by the world's own term for the bytes: nothing is compared byte by byte -/
theorem code_word {y : MethodName} {bytes : ByteArray} {mx : Nat} {rt : Option FieldType} {a : Array Value} {s : State} {m : MethodId} {meth : Method} {c : Code} (h1 : s.methodNamed? y = some m) (h2 : s.vm.method? m = some meth) (h3 : meth.code = some c) (h4 : c.code = bytes)
    (h5 : (c.maxLocals == mx && c.exceptionTable.isEmpty && decide (c.maxStack ≤ mostOperands) && decide (meth.sig.returnType = rt) && !meth.locks && decide (parseMethodDescriptor y.desc = some meth.sig)) = true) : (Jvm.Cond.code y bytes mx rt).before a s = true := by
  simp only [Bool.and_eq_true, beq_iff_eq, Bool.not_eq_true', decide_eq_true_eq] at h5
  obtain ⟨⟨⟨⟨⟨g1, g2⟩, g3⟩, g4⟩, g5⟩, g6⟩ := h5
  simp [Cond.before, Cond.holds, Cond.value, h1, h2, h3, h4, g1, g2, g3, g4, g5, g6]
def isCode : Jvm.Cond → Bool
  | .code _ _ _ _ => true
  | _ => false
theorem all_split {L : List Jvm.Cond} {P : Jvm.Cond → Bool} (h1 : L.all (fun c => isCode c || P c) = true) (h2 : ∀ c ∈ L.filter isCode, P c = true) : L.all P = true := by
  refine List.all_eq_true.mpr fun c hc => ?_
  have h := List.all_eq_true.mp h1 c hc
  rcases Bool.eq_false_or_eq_true (isCode c) with hi | hi
  · exact h2 c (List.mem_filter.mpr ⟨hc, hi⟩)
  · simpa [hi] using h
set_option maxRecDepth 65536 in
theorem w_c0 : (Jvm.Cond.code x code maxLocals ret).before args0 about1 = true := code_word (m := ⟨1, 1⟩) (meth := k1m1) (c := k1c1) (by decide +kernel) rfl rfl rfl (by decide +kernel)
set_option maxRecDepth 65536 in
theorem w_c1 : (Jvm.Cond.code ({ cls := "com/example/decorum/decorum/graphics/PaintSetPinLaw", name := "style", desc := "(I)Lcom/example/decorum/decorum/graphics/Paint$Style;" } : Jvm.MethodName) method_3_code (1 : Nat) (Option.some (Jvm.ClassFile.FieldType.object "com/example/decorum/decorum/graphics/Paint$Style"))).before args0 about1 = true := code_word (m := ⟨1, 2⟩) (meth := k1m2) (c := k1c2) (by decide +kernel) rfl rfl rfl (by decide +kernel)
set_option maxRecDepth 65536 in
theorem w_c2 : (Jvm.Cond.code ({ cls := "com/example/decorum/decorum/graphics/PaintSetPinLaw", name := "cap", desc := "(I)Lcom/example/decorum/decorum/graphics/Paint$Cap;" } : Jvm.MethodName) method_4_code (1 : Nat) (Option.some (Jvm.ClassFile.FieldType.object "com/example/decorum/decorum/graphics/Paint$Cap"))).before args0 about1 = true := code_word (m := ⟨1, 3⟩) (meth := k1m3) (c := k1c3) (by decide +kernel) rfl rfl rfl (by decide +kernel)
set_option maxRecDepth 65536 in
theorem w_c3 : (Jvm.Cond.code ({ cls := "com/example/decorum/decorum/graphics/PaintSetPinLaw", name := "join", desc := "(I)Lcom/example/decorum/decorum/graphics/Paint$Join;" } : Jvm.MethodName) method_5_code (1 : Nat) (Option.some (Jvm.ClassFile.FieldType.object "com/example/decorum/decorum/graphics/Paint$Join"))).before args0 about1 = true := code_word (m := ⟨1, 4⟩) (meth := k1m4) (c := k1c4) (by decide +kernel) rfl rfl rfl (by decide +kernel)
set_option maxRecDepth 65536 in
theorem w_c4 : (Jvm.Cond.code ({ cls := "com/example/decorum/decorum/graphics/PaintSetPinLaw", name := "align", desc := "(I)Lcom/example/decorum/decorum/graphics/Paint$Align;" } : Jvm.MethodName) method_6_code (1 : Nat) (Option.some (Jvm.ClassFile.FieldType.object "com/example/decorum/decorum/graphics/Paint$Align"))).before args0 about1 = true := code_word (m := ⟨1, 5⟩) (meth := k1m5) (c := k1c5) (by decide +kernel) rfl rfl rfl (by decide +kernel)
set_option maxRecDepth 65536 in
theorem w_c5 : (Jvm.Cond.code ({ cls := "com/example/decorum/decorum/graphics/Paint", name := "<init>", desc := "(I)V" } : Jvm.MethodName) prog_74_method_2_code (2 : Nat) (Option.none : Option Jvm.ClassFile.FieldType)).before args0 about1 = true := code_word (m := ⟨10, 1⟩) (meth := k10m1) (c := k10c1) (by decide +kernel) rfl rfl rfl (by decide +kernel)
set_option maxRecDepth 65536 in
theorem w_c6 : (Jvm.Cond.code ({ cls := "java/lang/Object", name := "<init>", desc := "()V" } : Jvm.MethodName) object_method_1_code (1 : Nat) (Option.none : Option Jvm.ClassFile.FieldType)).before args0 about1 = true := code_word (m := ⟨0, 0⟩) (meth := k0m0) (c := k0c0) (by decide +kernel) rfl rfl rfl (by decide +kernel)
set_option maxRecDepth 65536 in
theorem w_c7 : (Jvm.Cond.code ({ cls := "com/example/decorum/decorum/graphics/Paint", name := "setColor", desc := "(I)V" } : Jvm.MethodName) prog_74_method_10_code (2 : Nat) (Option.none : Option Jvm.ClassFile.FieldType)).before args0 about1 = true := code_word (m := ⟨10, 5⟩) (meth := k10m5) (c := k10c5) (by decide +kernel) rfl rfl rfl (by decide +kernel)
set_option maxRecDepth 65536 in
theorem w_c8 : (Jvm.Cond.code ({ cls := "com/example/decorum/decorum/graphics/Paint", name := "setStyle", desc := "(Lcom/example/decorum/decorum/graphics/Paint$Style;)V" } : Jvm.MethodName) prog_74_method_15_code (2 : Nat) (Option.none : Option Jvm.ClassFile.FieldType)).before args0 about1 = true := code_word (m := ⟨10, 7⟩) (meth := k10m7) (c := k10c7) (by decide +kernel) rfl rfl rfl (by decide +kernel)
set_option maxRecDepth 65536 in
theorem w_c9 : (Jvm.Cond.code ({ cls := "java/util/Objects", name := "requireNonNull", desc := "(Ljava/lang/Object;Ljava/lang/String;)Ljava/lang/Object;" } : Jvm.MethodName) jdk_31_method_11_code (2 : Nat) (Option.some (Jvm.ClassFile.FieldType.object "java/lang/Object"))).before args0 about1 = true := code_word (m := ⟨15, 1⟩) (meth := k15m1) (c := k15c1) (by decide +kernel) rfl rfl rfl (by decide +kernel)
set_option maxRecDepth 65536 in
theorem w_c10 : (Jvm.Cond.code ({ cls := "com/example/decorum/decorum/graphics/Paint", name := "setStrokeWidth", desc := "(F)V" } : Jvm.MethodName) prog_74_method_17_code (2 : Nat) (Option.none : Option Jvm.ClassFile.FieldType)).before args0 about1 = true := code_word (m := ⟨10, 9⟩) (meth := k10m9) (c := k10c9) (by decide +kernel) rfl rfl rfl (by decide +kernel)
set_option maxRecDepth 65536 in
theorem w_c11 : (Jvm.Cond.code ({ cls := "com/example/decorum/decorum/graphics/Paint", name := "setStrokeCap", desc := "(Lcom/example/decorum/decorum/graphics/Paint$Cap;)V" } : Jvm.MethodName) prog_74_method_19_code (2 : Nat) (Option.none : Option Jvm.ClassFile.FieldType)).before args0 about1 = true := code_word (m := ⟨10, 11⟩) (meth := k10m11) (c := k10c11) (by decide +kernel) rfl rfl rfl (by decide +kernel)
set_option maxRecDepth 65536 in
theorem w_c12 : (Jvm.Cond.code ({ cls := "com/example/decorum/decorum/graphics/Paint", name := "setStrokeJoin", desc := "(Lcom/example/decorum/decorum/graphics/Paint$Join;)V" } : Jvm.MethodName) prog_74_method_21_code (2 : Nat) (Option.none : Option Jvm.ClassFile.FieldType)).before args0 about1 = true := code_word (m := ⟨10, 13⟩) (meth := k10m13) (c := k10c13) (by decide +kernel) rfl rfl rfl (by decide +kernel)
set_option maxRecDepth 65536 in
theorem w_c13 : (Jvm.Cond.code ({ cls := "com/example/decorum/decorum/graphics/Paint", name := "setTextSize", desc := "(F)V" } : Jvm.MethodName) prog_74_method_25_code (2 : Nat) (Option.none : Option Jvm.ClassFile.FieldType)).before args0 about1 = true := code_word (m := ⟨10, 16⟩) (meth := k10m16) (c := k10c16) (by decide +kernel) rfl rfl rfl (by decide +kernel)
set_option maxRecDepth 65536 in
theorem w_c14 : (Jvm.Cond.code ({ cls := "com/example/decorum/decorum/graphics/Paint", name := "setTextAlign", desc := "(Lcom/example/decorum/decorum/graphics/Paint$Align;)V" } : Jvm.MethodName) prog_74_method_27_code (2 : Nat) (Option.none : Option Jvm.ClassFile.FieldType)).before args0 about1 = true := code_word (m := ⟨10, 18⟩) (meth := k10m18) (c := k10c18) (by decide +kernel) rfl rfl rfl (by decide +kernel)
set_option maxRecDepth 65536 in
theorem w_c15 : (Jvm.Cond.code ({ cls := "com/example/decorum/decorum/graphics/Paint", name := "set", desc := "(Lcom/example/decorum/decorum/graphics/Paint;)V" } : Jvm.MethodName) prog_74_method_4_code (2 : Nat) (Option.none : Option Jvm.ClassFile.FieldType)).before args0 about1 = true := code_word (m := ⟨10, 2⟩) (meth := k10m2) (c := k10c2) (by decide +kernel) rfl rfl rfl (by decide +kernel)
set_option maxRecDepth 65536 in
theorem w_c16 : (Jvm.Cond.code ({ cls := "com/example/decorum/decorum/graphics/Paint", name := "getFlags", desc := "()I" } : Jvm.MethodName) prog_74_method_5_code (1 : Nat) (Option.some Jvm.ClassFile.FieldType.int)).before args0 about1 = true := code_word (m := ⟨10, 3⟩) (meth := k10m3) (c := k10c3) (by decide +kernel) rfl rfl rfl (by decide +kernel)
set_option maxRecDepth 65536 in
theorem w_c17 : (Jvm.Cond.code ({ cls := "com/example/decorum/decorum/graphics/Paint", name := "getColor", desc := "()I" } : Jvm.MethodName) prog_74_method_9_code (1 : Nat) (Option.some Jvm.ClassFile.FieldType.int)).before args0 about1 = true := code_word (m := ⟨10, 4⟩) (meth := k10m4) (c := k10c4) (by decide +kernel) rfl rfl rfl (by decide +kernel)
set_option maxRecDepth 65536 in
theorem w_c18 : (Jvm.Cond.code ({ cls := "com/example/decorum/decorum/graphics/Paint", name := "getStyle", desc := "()Lcom/example/decorum/decorum/graphics/Paint$Style;" } : Jvm.MethodName) prog_74_method_14_code (1 : Nat) (Option.some (Jvm.ClassFile.FieldType.object "com/example/decorum/decorum/graphics/Paint$Style"))).before args0 about1 = true := code_word (m := ⟨10, 6⟩) (meth := k10m6) (c := k10c6) (by decide +kernel) rfl rfl rfl (by decide +kernel)
set_option maxRecDepth 65536 in
theorem w_c19 : (Jvm.Cond.code ({ cls := "com/example/decorum/decorum/graphics/Paint", name := "getStrokeWidth", desc := "()F" } : Jvm.MethodName) prog_74_method_16_code (1 : Nat) (Option.some Jvm.ClassFile.FieldType.float)).before args0 about1 = true := code_word (m := ⟨10, 8⟩) (meth := k10m8) (c := k10c8) (by decide +kernel) rfl rfl rfl (by decide +kernel)
set_option maxRecDepth 65536 in
theorem w_c20 : (Jvm.Cond.code ({ cls := "com/example/decorum/decorum/graphics/Paint", name := "getStrokeCap", desc := "()Lcom/example/decorum/decorum/graphics/Paint$Cap;" } : Jvm.MethodName) prog_74_method_18_code (1 : Nat) (Option.some (Jvm.ClassFile.FieldType.object "com/example/decorum/decorum/graphics/Paint$Cap"))).before args0 about1 = true := code_word (m := ⟨10, 10⟩) (meth := k10m10) (c := k10c10) (by decide +kernel) rfl rfl rfl (by decide +kernel)
set_option maxRecDepth 65536 in
theorem w_c21 : (Jvm.Cond.code ({ cls := "com/example/decorum/decorum/graphics/Paint", name := "getStrokeJoin", desc := "()Lcom/example/decorum/decorum/graphics/Paint$Join;" } : Jvm.MethodName) prog_74_method_20_code (1 : Nat) (Option.some (Jvm.ClassFile.FieldType.object "com/example/decorum/decorum/graphics/Paint$Join"))).before args0 about1 = true := code_word (m := ⟨10, 12⟩) (meth := k10m12) (c := k10c12) (by decide +kernel) rfl rfl rfl (by decide +kernel)
set_option maxRecDepth 65536 in
theorem w_c22 : (Jvm.Cond.code ({ cls := "com/example/decorum/decorum/graphics/Paint", name := "getTypeface", desc := "()Lcom/example/decorum/decorum/graphics/Typeface;" } : Jvm.MethodName) prog_74_method_22_code (1 : Nat) (Option.some (Jvm.ClassFile.FieldType.object "com/example/decorum/decorum/graphics/Typeface"))).before args0 about1 = true := code_word (m := ⟨10, 14⟩) (meth := k10m14) (c := k10c14) (by decide +kernel) rfl rfl rfl (by decide +kernel)
set_option maxRecDepth 65536 in
theorem w_c23 : (Jvm.Cond.code ({ cls := "com/example/decorum/decorum/graphics/Paint", name := "getTextSize", desc := "()F" } : Jvm.MethodName) prog_74_method_24_code (1 : Nat) (Option.some Jvm.ClassFile.FieldType.float)).before args0 about1 = true := code_word (m := ⟨10, 15⟩) (meth := k10m15) (c := k10c15) (by decide +kernel) rfl rfl rfl (by decide +kernel)
set_option maxRecDepth 65536 in
theorem w_c24 : (Jvm.Cond.code ({ cls := "com/example/decorum/decorum/graphics/Paint", name := "getTextAlign", desc := "()Lcom/example/decorum/decorum/graphics/Paint$Align;" } : Jvm.MethodName) prog_74_method_26_code (1 : Nat) (Option.some (Jvm.ClassFile.FieldType.object "com/example/decorum/decorum/graphics/Paint$Align"))).before args0 about1 = true := code_word (m := ⟨10, 17⟩) (meth := k10m17) (c := k10c17) (by decide +kernel) rfl rfl rfl (by decide +kernel)
def codes1 : List Jvm.Cond := [Jvm.Cond.code x code maxLocals ret, Jvm.Cond.code ({ cls := "com/example/decorum/decorum/graphics/PaintSetPinLaw", name := "style", desc := "(I)Lcom/example/decorum/decorum/graphics/Paint$Style;" } : Jvm.MethodName) method_3_code (1 : Nat) (Option.some (Jvm.ClassFile.FieldType.object "com/example/decorum/decorum/graphics/Paint$Style")), Jvm.Cond.code ({ cls := "com/example/decorum/decorum/graphics/PaintSetPinLaw", name := "cap", desc := "(I)Lcom/example/decorum/decorum/graphics/Paint$Cap;" } : Jvm.MethodName) method_4_code (1 : Nat) (Option.some (Jvm.ClassFile.FieldType.object "com/example/decorum/decorum/graphics/Paint$Cap")), Jvm.Cond.code ({ cls := "com/example/decorum/decorum/graphics/PaintSetPinLaw", name := "join", desc := "(I)Lcom/example/decorum/decorum/graphics/Paint$Join;" } : Jvm.MethodName) method_5_code (1 : Nat) (Option.some (Jvm.ClassFile.FieldType.object "com/example/decorum/decorum/graphics/Paint$Join")), Jvm.Cond.code ({ cls := "com/example/decorum/decorum/graphics/PaintSetPinLaw", name := "align", desc := "(I)Lcom/example/decorum/decorum/graphics/Paint$Align;" } : Jvm.MethodName) method_6_code (1 : Nat) (Option.some (Jvm.ClassFile.FieldType.object "com/example/decorum/decorum/graphics/Paint$Align")), Jvm.Cond.code ({ cls := "com/example/decorum/decorum/graphics/Paint", name := "<init>", desc := "(I)V" } : Jvm.MethodName) prog_74_method_2_code (2 : Nat) (Option.none : Option Jvm.ClassFile.FieldType), Jvm.Cond.code ({ cls := "java/lang/Object", name := "<init>", desc := "()V" } : Jvm.MethodName) object_method_1_code (1 : Nat) (Option.none : Option Jvm.ClassFile.FieldType), Jvm.Cond.code ({ cls := "com/example/decorum/decorum/graphics/Paint", name := "setColor", desc := "(I)V" } : Jvm.MethodName) prog_74_method_10_code (2 : Nat) (Option.none : Option Jvm.ClassFile.FieldType), Jvm.Cond.code ({ cls := "com/example/decorum/decorum/graphics/Paint", name := "setStyle", desc := "(Lcom/example/decorum/decorum/graphics/Paint$Style;)V" } : Jvm.MethodName) prog_74_method_15_code (2 : Nat) (Option.none : Option Jvm.ClassFile.FieldType), Jvm.Cond.code ({ cls := "java/util/Objects", name := "requireNonNull", desc := "(Ljava/lang/Object;Ljava/lang/String;)Ljava/lang/Object;" } : Jvm.MethodName) jdk_31_method_11_code (2 : Nat) (Option.some (Jvm.ClassFile.FieldType.object "java/lang/Object")), Jvm.Cond.code ({ cls := "com/example/decorum/decorum/graphics/Paint", name := "setStrokeWidth", desc := "(F)V" } : Jvm.MethodName) prog_74_method_17_code (2 : Nat) (Option.none : Option Jvm.ClassFile.FieldType), Jvm.Cond.code ({ cls := "com/example/decorum/decorum/graphics/Paint", name := "setStrokeCap", desc := "(Lcom/example/decorum/decorum/graphics/Paint$Cap;)V" } : Jvm.MethodName) prog_74_method_19_code (2 : Nat) (Option.none : Option Jvm.ClassFile.FieldType), Jvm.Cond.code ({ cls := "com/example/decorum/decorum/graphics/Paint", name := "setStrokeJoin", desc := "(Lcom/example/decorum/decorum/graphics/Paint$Join;)V" } : Jvm.MethodName) prog_74_method_21_code (2 : Nat) (Option.none : Option Jvm.ClassFile.FieldType), Jvm.Cond.code ({ cls := "com/example/decorum/decorum/graphics/Paint", name := "setTextSize", desc := "(F)V" } : Jvm.MethodName) prog_74_method_25_code (2 : Nat) (Option.none : Option Jvm.ClassFile.FieldType), Jvm.Cond.code ({ cls := "com/example/decorum/decorum/graphics/Paint", name := "setTextAlign", desc := "(Lcom/example/decorum/decorum/graphics/Paint$Align;)V" } : Jvm.MethodName) prog_74_method_27_code (2 : Nat) (Option.none : Option Jvm.ClassFile.FieldType), Jvm.Cond.code ({ cls := "com/example/decorum/decorum/graphics/Paint", name := "set", desc := "(Lcom/example/decorum/decorum/graphics/Paint;)V" } : Jvm.MethodName) prog_74_method_4_code (2 : Nat) (Option.none : Option Jvm.ClassFile.FieldType), Jvm.Cond.code ({ cls := "com/example/decorum/decorum/graphics/Paint", name := "getFlags", desc := "()I" } : Jvm.MethodName) prog_74_method_5_code (1 : Nat) (Option.some Jvm.ClassFile.FieldType.int), Jvm.Cond.code ({ cls := "com/example/decorum/decorum/graphics/Paint", name := "getColor", desc := "()I" } : Jvm.MethodName) prog_74_method_9_code (1 : Nat) (Option.some Jvm.ClassFile.FieldType.int), Jvm.Cond.code ({ cls := "com/example/decorum/decorum/graphics/Paint", name := "getStyle", desc := "()Lcom/example/decorum/decorum/graphics/Paint$Style;" } : Jvm.MethodName) prog_74_method_14_code (1 : Nat) (Option.some (Jvm.ClassFile.FieldType.object "com/example/decorum/decorum/graphics/Paint$Style")), Jvm.Cond.code ({ cls := "com/example/decorum/decorum/graphics/Paint", name := "getStrokeWidth", desc := "()F" } : Jvm.MethodName) prog_74_method_16_code (1 : Nat) (Option.some Jvm.ClassFile.FieldType.float), Jvm.Cond.code ({ cls := "com/example/decorum/decorum/graphics/Paint", name := "getStrokeCap", desc := "()Lcom/example/decorum/decorum/graphics/Paint$Cap;" } : Jvm.MethodName) prog_74_method_18_code (1 : Nat) (Option.some (Jvm.ClassFile.FieldType.object "com/example/decorum/decorum/graphics/Paint$Cap")), Jvm.Cond.code ({ cls := "com/example/decorum/decorum/graphics/Paint", name := "getStrokeJoin", desc := "()Lcom/example/decorum/decorum/graphics/Paint$Join;" } : Jvm.MethodName) prog_74_method_20_code (1 : Nat) (Option.some (Jvm.ClassFile.FieldType.object "com/example/decorum/decorum/graphics/Paint$Join")), Jvm.Cond.code ({ cls := "com/example/decorum/decorum/graphics/Paint", name := "getTypeface", desc := "()Lcom/example/decorum/decorum/graphics/Typeface;" } : Jvm.MethodName) prog_74_method_22_code (1 : Nat) (Option.some (Jvm.ClassFile.FieldType.object "com/example/decorum/decorum/graphics/Typeface")), Jvm.Cond.code ({ cls := "com/example/decorum/decorum/graphics/Paint", name := "getTextSize", desc := "()F" } : Jvm.MethodName) prog_74_method_24_code (1 : Nat) (Option.some Jvm.ClassFile.FieldType.float), Jvm.Cond.code ({ cls := "com/example/decorum/decorum/graphics/Paint", name := "getTextAlign", desc := "()Lcom/example/decorum/decorum/graphics/Paint$Align;" } : Jvm.MethodName) prog_74_method_26_code (1 : Nat) (Option.some (Jvm.ClassFile.FieldType.object "com/example/decorum/decorum/graphics/Paint$Align"))]
set_option maxRecDepth 65536 in
theorem codes_eq : words1.filter isCode = codes1 := rfl
theorem w_codes : ∀ c ∈ words1.filter isCode, c.before args0 about1 = true := by
  rw [codes_eq]
  intro c hc
  simp only [codes1, List.mem_cons, List.not_mem_nil, or_false] at hc
  rcases hc with rfl | rfl | rfl | rfl | rfl | rfl | rfl | rfl | rfl | rfl | rfl | rfl | rfl | rfl | rfl | rfl | rfl | rfl | rfl | rfl | rfl | rfl | rfl | rfl | rfl
  · exact w_c0
  · exact w_c1
  · exact w_c2
  · exact w_c3
  · exact w_c4
  · exact w_c5
  · exact w_c6
  · exact w_c7
  · exact w_c8
  · exact w_c9
  · exact w_c10
  · exact w_c11
  · exact w_c12
  · exact w_c13
  · exact w_c14
  · exact w_c15
  · exact w_c16
  · exact w_c17
  · exact w_c18
  · exact w_c19
  · exact w_c20
  · exact w_c21
  · exact w_c22
  · exact w_c23
  · exact w_c24
set_option maxRecDepth 65536 in
theorem w_t1 : (words1.take 24).all (fun c => isCode c || c.before args0 about1) = true := by decide +kernel
set_option maxRecDepth 65536 in
theorem w_t2 : ((words1.drop 24).take 24).all (fun c => isCode c || c.before args0 about1) = true := by decide +kernel
set_option maxRecDepth 65536 in
theorem w_t3 : (((words1.drop 24).drop 24).take 24).all (fun c => isCode c || c.before args0 about1) = true := by decide +kernel
set_option maxRecDepth 65536 in
theorem w_t4 : ((((words1.drop 24).drop 24).drop 24).take 24).all (fun c => isCode c || c.before args0 about1) = true := by decide +kernel
set_option maxRecDepth 65536 in
theorem w_t5 : (((((words1.drop 24).drop 24).drop 24).drop 24).take 24).all (fun c => isCode c || c.before args0 about1) = true := by decide +kernel
set_option maxRecDepth 65536 in
theorem w_t6 : ((((((words1.drop 24).drop 24).drop 24).drop 24).drop 24).take 24).all (fun c => isCode c || c.before args0 about1) = true := by decide +kernel
set_option maxRecDepth 65536 in
theorem w_t7 : (((((((words1.drop 24).drop 24).drop 24).drop 24).drop 24).drop 24).take 24).all (fun c => isCode c || c.before args0 about1) = true := by decide +kernel
set_option maxRecDepth 65536 in
theorem w_t8 : (((((((words1.drop 24).drop 24).drop 24).drop 24).drop 24).drop 24).drop 24).all (fun c => isCode c || c.before args0 about1) = true := by decide +kernel
theorem w_tables : (allAtoms (Jvm.Cond.code x code maxLocals ret :: tables_1)).before args0 about1 = true := by
  rw [allAtoms_all]
  show words1.all (fun c => c.before args0 about1) = true
  refine all_split ?_ w_codes
  rw [← List.take_append_drop 24 words1, List.all_append, w_t1, ← List.take_append_drop 24 (words1.drop 24), List.all_append, w_t2, ← List.take_append_drop 24 ((words1.drop 24).drop 24), List.all_append, w_t3, ← List.take_append_drop 24 (((words1.drop 24).drop 24).drop 24), List.all_append, w_t4, ← List.take_append_drop 24 ((((words1.drop 24).drop 24).drop 24).drop 24), List.all_append, w_t5, ← List.take_append_drop 24 (((((words1.drop 24).drop 24).drop 24).drop 24).drop 24), List.all_append, w_t6, ← List.take_append_drop 24 ((((((words1.drop 24).drop 24).drop 24).drop 24).drop 24).drop 24), List.all_append, w_t7, w_t8]
  rfl
set_option maxRecDepth 65536 in
theorem w_case : (Jvm.Cond.and given_1 narrow_1).before args0 about1 = true := by decide +kernel
theorem w_applies : (headSpec (Jvm.Cond.code x code maxLocals ret :: tables_1) room_1).applies x e0.platform about1 = true :=
  (Spec.applies_iff w_frames).mpr ⟨w_running, w_runnable, w_alone, w_named, w_hears, w_ripe, w_room, w_tables⟩
theorem atStart : AtStart classFile x code maxLocals ret World_1 tables_1 room_1 Calls_1 rest_1 Pre_1 launch0 p0 e0 about1 theMethod args0 below0 :=
  ⟨lists_1, trivial, launch0.admits_env _ _ _, launch0.least_env, fairChoices_fair.cas, fairChoices_fair.clock, w_frames, w_args, w_heap, w_applies, trivial, trivial, w_case⟩
end start1
theorem witness_1 : WitnessClaimed_1 := ⟨start1.p0, start1.e0, start1.about1, start1.theMethod, start1.args0, start1.below0, start1.atStart⟩
end Jvm.Pilot.@@N@@
