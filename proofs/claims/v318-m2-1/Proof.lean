import JvmDerived
import JvmDerived.Pilot.@@N@@Statement
import JvmDerived.Pilot.@@N@@Code
set_option linter.unusedVariables false
set_option linter.unusedSimpArgs false

namespace Jvm.RoadKit
open Sem ClassFile Op Lib Jvm.Stand Jvm.Free Jvm.LawKit
section New
variable {p : Program} {l : Launch} {e : Env} {R : Room} {s : State} {m : MethodId} {args : Array Value} {below : List Frame} {meth : Method} {c : Code} {T : State} {locs : List Loc} {cells slots : Nat}
theorem retI (X : Stand p l e R s m args below meth c T locs cells slots) (hx : p.tables.exec = Jvm.exec) {pc : Nat} {Ls : Array Slot} {z : Int32} {rest : List Value} (hret : meth.sig.returnType = some .int) (hd : decode c.code pc = .ok (.ireturn, 1)) {fs : List Frame}
    (hl : ∀ (f : JFrame) (acts : List Action), f.method = m → f.locked = none → f.entered = [] → (doReturn e (T.setTop f) acts (some (.int z))).1 = T.setFrames fs) : Steps p.tables e below (T.setTop (mkF m pc Ls (.int z :: rest))) (T.setFrames fs) := by
  have hm' : T.vm.method? m = some meth := X.method'
  have hn : narrow .int (.int z) = .int z := rfl
  show Steps p.tables e below (T.setTop { method := m, pc := pc, locals := Ls, stack := _ :: rest, locked := none }) _
  jvm_step X.here [X.here.top, hx, hd, hm', hret, hn]
  first | (intro acts; rw [hl _ acts rfl rfl rfl]) | rw [hl _ _ rfl rfl rfl]
  exact Steps.refl _
end New
end Jvm.RoadKit
namespace Jvm.Pilot.@@N@@
open Jvm Jvm.ClassFile Sem Op Lib Jvm.Free Jvm.Stand Jvm.LawKit Jvm.RoadKit Bundle Jvm.Pilot.@@N@@.Jvm.D
theorem own_fld_int {Z : State} {args : Array Value} {t : Term} {a : Addr} {C n d : String} {k : Int32} (h : (Cond.eq (.field t C n d) (.int k)).value args Z none Z [] = some true) (ev : t.eval args Z none [] Z = some (.ref a)) : Fld Z Z.heap a C n d (.int k) := by
  apply Fld.start
  have e := fld_at (C := C) (n := n) (dd := d) ev
  cases hv : Z.fieldOf? a C n d with
  | none => rw [hv] at e; simp [Cond.value, e] at h
  | some v =>
    rw [hv] at e
    cases v <;> simp_all [Cond.value, Term.eval]
theorem own_fld_ref {Z : State} {args : Array Value} {t u : Term} {a b : Addr} {C n d : String} (h : (Cond.eq (.field t C n d) u).value args Z none Z [] = some true) (ev : t.eval args Z none [] Z = some (.ref a)) (eu : u.eval args Z none [] Z = some (.ref b)) : Fld Z Z.heap a C n d (.ref b) := by
  apply Fld.start
  have e := fld_at (C := C) (n := n) (dd := d) ev
  cases hv : Z.fieldOf? a C n d with
  | none => rw [hv] at e; simp [Cond.value, e, eu] at h
  | some v =>
    rw [hv] at e
    cases v <;> simp_all [Cond.value, Term.eval]
def pick3 (u : Int32) (i j k : Addr) : Addr := if ((u &&& (2147483647 : Int32)) % (3 : Int32)) = (0 : Int32) then i else if ((u &&& (2147483647 : Int32)) % (3 : Int32)) = (1 : Int32) then j else k
theorem own_pick (u : Int32) (i j k : Addr) : pick3 u i j k = i ∨ pick3 u i j k = j ∨ pick3 u i j k = k := by
  unfold pick3
  repeat' split
  · exact Or.inl rfl
  · exact Or.inr (Or.inl rfl)
  · exact Or.inr (Or.inr rfl)
def sz12 (w i : Addr) : Int32 := if w = i then 1 else 2
theorem d9_0 : decode jdk_22_method_1_code 0 = .ok (.aload_n 0, 1) := by decide +kernel
theorem d9_1 : decode jdk_22_method_1_code 1 = .ok (.invokespecial 1, 3) := by decide +kernel
theorem d9_4 : decode jdk_22_method_1_code 4 = .ok (.return_, 1) := by decide +kernel
theorem pn_java_util_AbstractCollection : plainName "java/util/AbstractCollection" = true := by first | (simp [plainName, overriddenIn]; done) | decide +kernel
theorem ef_9 (m : MethodId) (u0 : Addr) : entryFrame m #[(.ref u0)] 1 = mkF m 0 #[.val (.ref u0)] [] := by first | (simp [entryFrame, mkF, argsToLocals, Value.category]; done) | rfl
def Q9 (Z : State) (u0 : Addr) (h0 : Heap) (n0 : Nat) (v : Option Value) (h : Heap) (L : List Loc) : Prop := v = none ∧ Fr n0 L ∧ h = h0
set_option maxRecDepth 65536 in
set_option maxHeartbeats 40000000 in
theorem rm9 (l : Launch) (Z : State) (a0 : Array Value) (hw : ∀ d ∈ tables_1, d.before a0 Z = true) (ws : List Jvm.Cond) (u0 : Addr) (h0 : Heap) (n0 : Nat) (Z0 : n0 ≤ h0.size) :
    MetFree l (⟨"java/util/AbstractCollection", "<init>", "()V"⟩ : MethodName) (head1 (Jvm.Cond.code (⟨"java/util/AbstractCollection", "<init>", "()V"⟩ : MethodName) jdk_22_method_1_code 1 none :: ws) ({ frames := 1, cells := 0, slots := 0, locals := 12 } : Room)) (fun a U => a = #[(.ref u0)] ∧ Z.Warmed39 U.vm ∧ U.heap = h0) (fun _ _ _ _ _ => True) (fun _ U o U' => ∃ v L, o = .returned v ∧ Q9 Z u0 h0 n0 v U'.heap L ∧ FrameEnd U o U' L ({ frames := 1, cells := 0, slots := 0, locals := 12 } : Room).cells ({ frames := 1, cells := 0, slots := 0, locals := 12 } : Room).slots) := by
  refine MetFree.of_bodySF (plainFor_of_name pn_java_util_AbstractCollection) hisR ?_
  intro p e s m args below meth c s₁ Bd hml0 hP hK
  obtain ⟨rfl, hZ, hh⟩ := hP
  have hx := Bd.exec
  have hby := Bd.bytes
  have hml : c.maxLocals = 1 := hml0
  have hown : s.vm.findClass "java/util/AbstractCollection" = some m.cls := findClass_of_methodNamed Bd.named
  have hnm := (name_of_methodNamed Bd.named Bd.method).1
  have X0 : Stand p l e ({ frames := 1, cells := 0, slots := 0, locals := 12 } : Room) s m #[(.ref u0)] below meth c s₁ [] 0 0 := Stand.of_body Bd
  have e0 : s₁.heap = h0 := by rw [← hh, Bd.state]; rfl
  have N0 := Fr.nil n0
  have pre0 : ∀ t, Steps p.tables e below (s₁.setTop (mkF m 0 #[.val (.ref u0)] [])) t → Steps p.tables e below (s₁.setTop (entryFrame m #[(.ref u0)] 1)) t := fun t k => castTop (ef_9 m u0) k
  obtain ⟨T1, X1, e1, st1⟩ := initO X0 hx hZ hown (hw _ (List.mem_of_getElem? (i := 72) rfl)) (hw _ (List.mem_of_getElem? (i := 73) rfl)) (hw _ (List.mem_of_getElem? (i := 74) rfl)) e0 (g := (mkF m 1 #[.val (.ref u0)] [(.ref u0)])) rfl (by rw [hml]; rfl) rfl (hb hby d9_1) (by decide) (W := 0) (by show 2 * 0 + _ ≤ _; exact Nat.le_of_eq rfl) (by decide)
  obtain ⟨fs, hr, hrun, hended, hW, hsame⟩ := X1.leave (v := none) (fun _ => rfl)
  refine ⟨_, _, pre0 _ ?_, hrun, hended, _, _, rfl, ?_, ⟨_, rfl⟩, hW, hsame.mono (by decide) (by decide)⟩
  · show Steps p.tables e below (s₁.setTop (mkF m 0 #[.val (.ref u0)] [])) _
    refine XS.aloadN X0.here hx rfl (hb hby d9_0) rfl rfl ?_
    show Steps p.tables e below (s₁.setTop (mkF m 1 #[.val (.ref u0)] [(.ref u0)])) _
    refine st1 _ ?_
    show Steps p.tables e below (T1.setTop (mkF m 4 #[.val (.ref u0)] [])) _
    exact X1.returnOut hx Bd.returns (hb hby d9_4) hr
  · show Q9 Z u0 h0 n0 _ T1.heap _
    rw [e1]
    exact ⟨rfl, N0, rfl⟩
theorem pd_2 : parseMethodDescriptor "()V" = some ⟨[], none⟩ := by decide +kernel
theorem d8_0 : decode jdk_47_method_1_code 0 = .ok (.aload_n 0, 1) := by decide +kernel
theorem d8_1 : decode jdk_47_method_1_code 1 = .ok (.invokespecial 1, 3) := by decide +kernel
theorem d8_4 : decode jdk_47_method_1_code 4 = .ok (.return_, 1) := by decide +kernel
theorem pn_java_util_ImmutableCollections_AbstractImmutableCollection : plainName "java/util/ImmutableCollections$AbstractImmutableCollection" = true := by first | (simp [plainName, overriddenIn]; done) | decide +kernel
theorem ef_8 (m : MethodId) (u0 : Addr) : entryFrame m #[(.ref u0)] 1 = mkF m 0 #[.val (.ref u0)] [] := by first | (simp [entryFrame, mkF, argsToLocals, Value.category]; done) | rfl
def Q8 (Z : State) (u0 : Addr) (h0 : Heap) (n0 : Nat) (v : Option Value) (h : Heap) (L : List Loc) : Prop := v = none ∧ Fr n0 L ∧ h = h0
set_option maxRecDepth 65536 in
set_option maxHeartbeats 40000000 in
theorem rm8 (l : Launch) (Z : State) (a0 : Array Value) (hw : ∀ d ∈ tables_1, d.before a0 Z = true) (ws : List Jvm.Cond) (u0 : Addr) (h0 : Heap) (n0 : Nat) (Z0 : n0 ≤ h0.size) :
    MetFree l (⟨"java/util/ImmutableCollections$AbstractImmutableCollection", "<init>", "()V"⟩ : MethodName) (head1 (Jvm.Cond.code (⟨"java/util/ImmutableCollections$AbstractImmutableCollection", "<init>", "()V"⟩ : MethodName) jdk_47_method_1_code 1 none :: ws) ({ frames := 2, cells := 0, slots := 0, locals := 24 } : Room)) (fun a U => a = #[(.ref u0)] ∧ Z.Warmed39 U.vm ∧ U.heap = h0) (fun _ _ _ _ _ => True) (fun _ U o U' => ∃ v L, o = .returned v ∧ Q8 Z u0 h0 n0 v U'.heap L ∧ FrameEnd U o U' L ({ frames := 2, cells := 0, slots := 0, locals := 24 } : Room).cells ({ frames := 2, cells := 0, slots := 0, locals := 24 } : Room).slots) := by
  refine MetFree.of_bodySF (plainFor_of_name pn_java_util_ImmutableCollections_AbstractImmutableCollection) hisR ?_
  intro p e s m args below meth c s₁ Bd hml0 hP hK
  obtain ⟨rfl, hZ, hh⟩ := hP
  have hx := Bd.exec
  have hby := Bd.bytes
  have hml : c.maxLocals = 1 := hml0
  have hown : s.vm.findClass "java/util/ImmutableCollections$AbstractImmutableCollection" = some m.cls := findClass_of_methodNamed Bd.named
  have hnm := (name_of_methodNamed Bd.named Bd.method).1
  have X0 : Stand p l e ({ frames := 2, cells := 0, slots := 0, locals := 24 } : Room) s m #[(.ref u0)] below meth c s₁ [] 0 0 := Stand.of_body Bd
  have e0 : s₁.heap = h0 := by rw [← hh, Bd.state]; rfl
  have N0 := Fr.nil n0
  have pre0 : ∀ t, Steps p.tables e below (s₁.setTop (mkF m 0 #[.val (.ref u0)] [])) t → Steps p.tables e below (s₁.setTop (entryFrame m #[(.ref u0)] 1)) t := fun t k => castTop (ef_8 m u0) k
  obtain ⟨_, _, ⟨T1, L1, k1, n1⟩, -, X1, ⟨Lc1, hQ1, l1, y1, z1⟩, st1⟩ := X0.specialBack hx (y := (⟨"java/util/AbstractCollection", "<init>", "()V"⟩ : MethodName)) rfl hown (mvT hZ (hw _ (List.mem_of_getElem? (i := 66) rfl))) (mvT hZ (hw _ (List.mem_of_getElem? (i := 67) rfl))) (mvT hZ (hw _ (List.mem_of_getElem? (i := 71) rfl))) (by decide) (backOf (W := 0) (rm9 l Z a0 hw [] u0 h0 n0 Z0 ) hZ (hw _ (List.mem_of_getElem? (i := 71) rfl)) (hw _ (List.mem_of_getElem? (i := 70) rfl)) (by decide) (by decide)) (g := (mkF m 1 #[.val (.ref u0)] [(.ref u0)])) rfl (by rw [hml]; rfl) (Steps.refl _) (a := u0) (argsL := []) (rest := []) (lenOf pd_2 rfl) rfl (by show 2 * 0 + _ ≤ _; exact Nat.le_of_eq rfl) (hb hby d8_1) (fun _ _ => ⟨rfl, e0, (by decide : 0 + 0 ≤ _), (by decide : 0 + 0 ≤ _)⟩)
  dsimp only [Pt.U, Pt.locs, Pt.cells, Pt.slots] at X1 l1 y1 z1 st1 hQ1
  subst l1 y1 z1
  obtain ⟨rfl, N1q, e1⟩ := hQ1
  have N1 := Fr.app N0 N1q
  obtain ⟨fs, hr, hrun, hended, hW, hsame⟩ := X1.leave (v := none) (fun _ => rfl)
  refine ⟨_, _, pre0 _ ?_, hrun, hended, _, _, rfl, ?_, ⟨_, rfl⟩, hW, hsame.mono (by decide) (by decide)⟩
  · show Steps p.tables e below (s₁.setTop (mkF m 0 #[.val (.ref u0)] [])) _
    refine XS.aloadN X0.here hx rfl (hb hby d8_0) rfl rfl ?_
    show Steps p.tables e below (s₁.setTop (mkF m 1 #[.val (.ref u0)] [(.ref u0)])) _
    refine st1.trans ?_
    show Steps p.tables e below (T1.setTop (mkF m 4 #[.val (.ref u0)] [])) _
    exact X1.returnOut hx Bd.returns (hb hby d8_4) hr
  · show Q8 Z u0 h0 n0 _ T1.heap _
    rw [e1]
    exact ⟨rfl, N1, rfl⟩
theorem d7_0 : decode jdk_46_method_1_code 0 = .ok (.aload_n 0, 1) := by decide +kernel
theorem d7_1 : decode jdk_46_method_1_code 1 = .ok (.invokespecial 1, 3) := by decide +kernel
theorem d7_4 : decode jdk_46_method_1_code 4 = .ok (.return_, 1) := by decide +kernel
theorem pn_java_util_ImmutableCollections_AbstractImmutableList : plainName "java/util/ImmutableCollections$AbstractImmutableList" = true := by first | (simp [plainName, overriddenIn]; done) | decide +kernel
theorem ef_7 (m : MethodId) (u0 : Addr) : entryFrame m #[(.ref u0)] 1 = mkF m 0 #[.val (.ref u0)] [] := by first | (simp [entryFrame, mkF, argsToLocals, Value.category]; done) | rfl
def Q7 (Z : State) (u0 : Addr) (h0 : Heap) (n0 : Nat) (v : Option Value) (h : Heap) (L : List Loc) : Prop := v = none ∧ Fr n0 L ∧ h = h0
set_option maxRecDepth 65536 in
set_option maxHeartbeats 40000000 in
theorem rm7 (l : Launch) (Z : State) (a0 : Array Value) (hw : ∀ d ∈ tables_1, d.before a0 Z = true) (ws : List Jvm.Cond) (u0 : Addr) (h0 : Heap) (n0 : Nat) (Z0 : n0 ≤ h0.size) :
    MetFree l (⟨"java/util/ImmutableCollections$AbstractImmutableList", "<init>", "()V"⟩ : MethodName) (head1 (Jvm.Cond.code (⟨"java/util/ImmutableCollections$AbstractImmutableList", "<init>", "()V"⟩ : MethodName) jdk_46_method_1_code 1 none :: ws) ({ frames := 3, cells := 0, slots := 0, locals := 36 } : Room)) (fun a U => a = #[(.ref u0)] ∧ Z.Warmed39 U.vm ∧ U.heap = h0) (fun _ _ _ _ _ => True) (fun _ U o U' => ∃ v L, o = .returned v ∧ Q7 Z u0 h0 n0 v U'.heap L ∧ FrameEnd U o U' L ({ frames := 3, cells := 0, slots := 0, locals := 36 } : Room).cells ({ frames := 3, cells := 0, slots := 0, locals := 36 } : Room).slots) := by
  refine MetFree.of_bodySF (plainFor_of_name pn_java_util_ImmutableCollections_AbstractImmutableList) hisR ?_
  intro p e s m args below meth c s₁ Bd hml0 hP hK
  obtain ⟨rfl, hZ, hh⟩ := hP
  have hx := Bd.exec
  have hby := Bd.bytes
  have hml : c.maxLocals = 1 := hml0
  have hown : s.vm.findClass "java/util/ImmutableCollections$AbstractImmutableList" = some m.cls := findClass_of_methodNamed Bd.named
  have hnm := (name_of_methodNamed Bd.named Bd.method).1
  have X0 : Stand p l e ({ frames := 3, cells := 0, slots := 0, locals := 36 } : Room) s m #[(.ref u0)] below meth c s₁ [] 0 0 := Stand.of_body Bd
  have e0 : s₁.heap = h0 := by rw [← hh, Bd.state]; rfl
  have N0 := Fr.nil n0
  have pre0 : ∀ t, Steps p.tables e below (s₁.setTop (mkF m 0 #[.val (.ref u0)] [])) t → Steps p.tables e below (s₁.setTop (entryFrame m #[(.ref u0)] 1)) t := fun t k => castTop (ef_7 m u0) k
  obtain ⟨_, _, ⟨T1, L1, k1, n1⟩, -, X1, ⟨Lc1, hQ1, l1, y1, z1⟩, st1⟩ := X0.specialBack hx (y := (⟨"java/util/ImmutableCollections$AbstractImmutableCollection", "<init>", "()V"⟩ : MethodName)) rfl hown (mvT hZ (hw _ (List.mem_of_getElem? (i := 60) rfl))) (mvT hZ (hw _ (List.mem_of_getElem? (i := 61) rfl))) (mvT hZ (hw _ (List.mem_of_getElem? (i := 65) rfl))) (by decide) (backOf (W := 0) (rm8 l Z a0 hw [] u0 h0 n0 Z0 ) hZ (hw _ (List.mem_of_getElem? (i := 65) rfl)) (hw _ (List.mem_of_getElem? (i := 64) rfl)) (by decide) (by decide)) (g := (mkF m 1 #[.val (.ref u0)] [(.ref u0)])) rfl (by rw [hml]; rfl) (Steps.refl _) (a := u0) (argsL := []) (rest := []) (lenOf pd_2 rfl) rfl (by show 2 * 0 + _ ≤ _; exact Nat.le_of_eq rfl) (hb hby d7_1) (fun _ _ => ⟨rfl, e0, (by decide : 0 + 0 ≤ _), (by decide : 0 + 0 ≤ _)⟩)
  dsimp only [Pt.U, Pt.locs, Pt.cells, Pt.slots] at X1 l1 y1 z1 st1 hQ1
  subst l1 y1 z1
  obtain ⟨rfl, N1q, e1⟩ := hQ1
  have N1 := Fr.app N0 N1q
  obtain ⟨fs, hr, hrun, hended, hW, hsame⟩ := X1.leave (v := none) (fun _ => rfl)
  refine ⟨_, _, pre0 _ ?_, hrun, hended, _, _, rfl, ?_, ⟨_, rfl⟩, hW, hsame.mono (by decide) (by decide)⟩
  · show Steps p.tables e below (s₁.setTop (mkF m 0 #[.val (.ref u0)] [])) _
    refine XS.aloadN X0.here hx rfl (hb hby d7_0) rfl rfl ?_
    show Steps p.tables e below (s₁.setTop (mkF m 1 #[.val (.ref u0)] [(.ref u0)])) _
    refine st1.trans ?_
    show Steps p.tables e below (T1.setTop (mkF m 4 #[.val (.ref u0)] [])) _
    exact X1.returnOut hx Bd.returns (hb hby d7_4) hr
  · show Q7 Z u0 h0 n0 _ T1.heap _
    rw [e1]
    exact ⟨rfl, N1, rfl⟩
theorem d11_0 : decode jdk_31_method_10_code 0 = .ok (.aload_n 0, 1) := by decide +kernel
theorem d11_1 : decode jdk_31_method_10_code 1 = .ok (.ifnonnull 11, 3) := by decide +kernel
theorem d11_12 : decode jdk_31_method_10_code 12 = .ok (.aload_n 0, 1) := by decide +kernel
theorem d11_13 : decode jdk_31_method_10_code 13 = .ok (.areturn, 1) := by decide +kernel
theorem pn_java_util_Objects : plainName "java/util/Objects" = true := by first | (simp [plainName, overriddenIn]; done) | decide +kernel
theorem ef_11 (m : MethodId) (u0 : Addr) : entryFrame m #[(.ref u0)] 1 = mkF m 0 #[.val (.ref u0)] [] := by first | (simp [entryFrame, mkF, argsToLocals, Value.category]; done) | rfl
def Q11 (Z : State) (u0 : Addr) (h0 : Heap) (n0 : Nat) (v : Option Value) (h : Heap) (L : List Loc) : Prop := v = some (.ref u0) ∧ Fr n0 L ∧ h = h0
set_option maxRecDepth 65536 in
set_option maxHeartbeats 40000000 in
theorem rm11 (l : Launch) (Z : State) (a0 : Array Value) (hw : ∀ d ∈ tables_1, d.before a0 Z = true) (ws : List Jvm.Cond) (u0 : Addr) (h0 : Heap) (n0 : Nat) (Z0 : n0 ≤ h0.size) :
    MetFree l (⟨"java/util/Objects", "requireNonNull", "(Ljava/lang/Object;)Ljava/lang/Object;"⟩ : MethodName) (head1 (Jvm.Cond.code (⟨"java/util/Objects", "requireNonNull", "(Ljava/lang/Object;)Ljava/lang/Object;"⟩ : MethodName) jdk_31_method_10_code 1 (some (.object "java/lang/Object")) :: ws) ({ frames := 0, cells := 0, slots := 0, locals := 0 } : Room)) (fun a U => a = #[(.ref u0)] ∧ Z.Warmed39 U.vm ∧ U.heap = h0) (fun _ _ _ _ _ => True) (fun _ U o U' => ∃ v L, o = .returned v ∧ Q11 Z u0 h0 n0 v U'.heap L ∧ FrameEnd U o U' L ({ frames := 0, cells := 0, slots := 0, locals := 0 } : Room).cells ({ frames := 0, cells := 0, slots := 0, locals := 0 } : Room).slots) := by
  refine MetFree.of_bodySF (plainFor_of_name pn_java_util_Objects) hisR ?_
  intro p e s m args below meth c s₁ Bd hml0 hP hK
  obtain ⟨rfl, hZ, hh⟩ := hP
  have hx := Bd.exec
  have hby := Bd.bytes
  have hml : c.maxLocals = 1 := hml0
  have hown : s.vm.findClass "java/util/Objects" = some m.cls := findClass_of_methodNamed Bd.named
  have hnm := (name_of_methodNamed Bd.named Bd.method).1
  have X0 : Stand p l e ({ frames := 0, cells := 0, slots := 0, locals := 0 } : Room) s m #[(.ref u0)] below meth c s₁ [] 0 0 := Stand.of_body Bd
  have e0 : s₁.heap = h0 := by rw [← hh, Bd.state]; rfl
  have N0 := Fr.nil n0
  have pre0 : ∀ t, Steps p.tables e below (s₁.setTop (mkF m 0 #[.val (.ref u0)] [])) t → Steps p.tables e below (s₁.setTop (entryFrame m #[(.ref u0)] 1)) t := fun t k => castTop (ef_11 m u0) k
  obtain ⟨fs, hr, hrun, hended, hW, hsame⟩ := X0.leave (v := some (.ref u0)) (fun h => by rw [Bd.returns] at h; cases h)
  refine ⟨_, _, pre0 _ ?_, hrun, hended, _, _, rfl, ?_, ⟨_, rfl⟩, hW, hsame.mono (by decide) (by decide)⟩
  · show Steps p.tables e below (s₁.setTop (mkF m 0 #[.val (.ref u0)] [])) _
    refine XS.aloadN X0.here hx rfl (hb hby d11_0) rfl rfl ?_
    show Steps p.tables e below (s₁.setTop (mkF m 1 #[.val (.ref u0)] [(.ref u0)])) _
    refine XS.ifnonnullYes X0.here hx rfl (pc0 := 1) (pc' := 12) rfl (hb hby d11_1) rfl (by decide) (by decide) ?_
    show Steps p.tables e below (s₁.setTop (mkF m 12 #[.val (.ref u0)] [])) _
    refine XS.aloadN X0.here hx rfl (hb hby d11_12) rfl rfl ?_
    show Steps p.tables e below (s₁.setTop (mkF m 13 #[.val (.ref u0)] [(.ref u0)])) _
    jvm_step X0.here [X0.here.top, hx, (hb hby d11_13), X0.method', Bd.returns, Value.isRef, FieldType.isReference]
    first | (intro acts; rw [hr _ acts rfl rfl rfl]) | rw [hr _ _ rfl rfl rfl]
    exact Steps.refl _
  · show Q11 Z u0 h0 n0 _ s₁.heap _
    rw [e0]
    exact ⟨rfl, N0, rfl⟩
theorem pd_5 : parseMethodDescriptor "(Ljava/lang/Object;)Ljava/lang/Object;" = some ⟨[(.object "java/lang/Object")], some (.object "java/lang/Object")⟩ := by decide +kernel
theorem d6_0 : decode jdk_44_method_1_code 0 = .ok (.aload_n 0, 1) := by decide +kernel
theorem d6_1 : decode jdk_44_method_1_code 1 = .ok (.invokespecial 1, 3) := by decide +kernel
theorem d6_4 : decode jdk_44_method_1_code 4 = .ok (.aload_n 0, 1) := by decide +kernel
theorem d6_5 : decode jdk_44_method_1_code 5 = .ok (.aload_n 1, 1) := by decide +kernel
theorem d6_6 : decode jdk_44_method_1_code 6 = .ok (.invokestatic 7, 3) := by decide +kernel
theorem d6_9 : decode jdk_44_method_1_code 9 = .ok (.putfield 13, 3) := by decide +kernel
theorem d6_12 : decode jdk_44_method_1_code 12 = .ok (.aload_n 0, 1) := by decide +kernel
theorem d6_13 : decode jdk_44_method_1_code 13 = .ok (.getstatic 19, 3) := by decide +kernel
theorem d6_16 : decode jdk_44_method_1_code 16 = .ok (.putfield 24, 3) := by decide +kernel
theorem d6_19 : decode jdk_44_method_1_code 19 = .ok (.return_, 1) := by decide +kernel
theorem pn_java_util_ImmutableCollections_List12 : plainName "java/util/ImmutableCollections$List12" = true := by first | (simp [plainName, overriddenIn]; done) | decide +kernel
theorem ef_6 (m : MethodId) (u0 : Addr) (u1 : Addr) : entryFrame m #[(.ref u0), (.ref u1)] 2 = mkF m 0 #[.val (.ref u0), .val (.ref u1)] [] := by first | (simp [entryFrame, mkF, argsToLocals, Value.category]; done) | rfl
def Q6 (Z : State) (u0 : Addr) (u1 : Addr) (a_EMPTY : Addr) (h0 : Heap) (n0 : Nat) (v : Option Value) (h : Heap) (L : List Loc) : Prop := v = none ∧ Fr n0 L ∧ Keep h0 h [u0] ∧ Fld Z h u0 "java/util/ImmutableCollections$List12" "e0" "Ljava/lang/Object;" (.ref u1) ∧ Fld Z h u0 "java/util/ImmutableCollections$List12" "e1" "Ljava/lang/Object;" (.ref a_EMPTY)
set_option maxRecDepth 65536 in
set_option maxHeartbeats 40000000 in
theorem rm6 (l : Launch) (Z : State) (a0 : Array Value) (hw : ∀ d ∈ tables_1, d.before a0 Z = true) (ws : List Jvm.Cond) (u0 : Addr) (u1 : Addr) (a_EMPTY : Addr) (h0 : Heap) (n0 : Nat) (Z0 : n0 ≤ h0.size) (O0 : Old Z n0 h0) (S_EMPTY : Sta Z Z.heap "java/util/ImmutableCollections" "EMPTY" "Ljava/lang/Object;" (.ref a_EMPTY)) (g_u0 : n0 ≤ u0) (E_u0 : Exa Z h0 u0 "java/util/ImmutableCollections$List12") (F_e0 : Fld Z h0 u0 "java/util/ImmutableCollections$List12" "e0" "Ljava/lang/Object;" .null) (F_e1 : Fld Z h0 u0 "java/util/ImmutableCollections$List12" "e1" "Ljava/lang/Object;" .null) :
    MetFree l (⟨"java/util/ImmutableCollections$List12", "<init>", "(Ljava/lang/Object;)V"⟩ : MethodName) (head1 (Jvm.Cond.code (⟨"java/util/ImmutableCollections$List12", "<init>", "(Ljava/lang/Object;)V"⟩ : MethodName) jdk_44_method_1_code 2 none :: ws) ({ frames := 4, cells := 0, slots := 0, locals := 48 } : Room)) (fun a U => a = #[(.ref u0), (.ref u1)] ∧ Z.Warmed39 U.vm ∧ U.heap = h0) (fun _ _ _ _ _ => True) (fun _ U o U' => ∃ v L, o = .returned v ∧ Q6 Z u0 u1 a_EMPTY h0 n0 v U'.heap L ∧ FrameEnd U o U' L ({ frames := 4, cells := 0, slots := 0, locals := 48 } : Room).cells ({ frames := 4, cells := 0, slots := 0, locals := 48 } : Room).slots) := by
  refine MetFree.of_bodySF (plainFor_of_name pn_java_util_ImmutableCollections_List12) hisR ?_
  intro p e s m args below meth c s₁ Bd hml0 hP hK
  obtain ⟨rfl, hZ, hh⟩ := hP
  have hx := Bd.exec
  have hby := Bd.bytes
  have hml : c.maxLocals = 2 := hml0
  have hown : s.vm.findClass "java/util/ImmutableCollections$List12" = some m.cls := findClass_of_methodNamed Bd.named
  have hnm := (name_of_methodNamed Bd.named Bd.method).1
  have X0 : Stand p l e ({ frames := 4, cells := 0, slots := 0, locals := 48 } : Room) s m #[(.ref u0), (.ref u1)] below meth c s₁ [] 0 0 := Stand.of_body Bd
  have e0 : s₁.heap = h0 := by rw [← hh, Bd.state]; rfl
  have N0 := Fr.nil n0
  have pre0 : ∀ t, Steps p.tables e below (s₁.setTop (mkF m 0 #[.val (.ref u0), .val (.ref u1)] [])) t → Steps p.tables e below (s₁.setTop (entryFrame m #[(.ref u0), (.ref u1)] 2)) t := fun t k => castTop (ef_6 m u0 u1) k
  obtain ⟨_, _, ⟨T1, L1, k1, n1⟩, -, X1, ⟨Lc1, hQ1, l1, y1, z1⟩, st1⟩ := X0.specialBack hx (y := (⟨"java/util/ImmutableCollections$AbstractImmutableList", "<init>", "()V"⟩ : MethodName)) rfl hown (mvT hZ (hw _ (List.mem_of_getElem? (i := 54) rfl))) (mvT hZ (hw _ (List.mem_of_getElem? (i := 55) rfl))) (mvT hZ (hw _ (List.mem_of_getElem? (i := 59) rfl))) (by decide) (backOf (W := 0) (rm7 l Z a0 hw [] u0 h0 n0 Z0 ) hZ (hw _ (List.mem_of_getElem? (i := 59) rfl)) (hw _ (List.mem_of_getElem? (i := 58) rfl)) (by decide) (by decide)) (g := (mkF m 1 #[.val (.ref u0), .val (.ref u1)] [(.ref u0)])) rfl (by rw [hml]; rfl) (Steps.refl _) (a := u0) (argsL := []) (rest := []) (lenOf pd_2 rfl) rfl (by show 2 * 0 + _ ≤ _; exact Nat.le_of_eq rfl) (hb hby d6_1) (fun _ _ => ⟨rfl, e0, (by decide : 0 + 0 ≤ _), (by decide : 0 + 0 ≤ _)⟩)
  dsimp only [Pt.U, Pt.locs, Pt.cells, Pt.slots] at X1 l1 y1 z1 st1 hQ1
  subst l1 y1 z1
  obtain ⟨rfl, N1q, e1⟩ := hQ1
  have N1 := Fr.app N0 N1q
  obtain ⟨_, _, ⟨T2, L2, k2, n2⟩, -, X2, ⟨Lc2, hQ2, l2, y2, z2⟩, st2⟩ := Jvm.LawKit.callS X1 hx (y := (⟨"java/util/Objects", "requireNonNull", "(Ljava/lang/Object;)Ljava/lang/Object;"⟩ : MethodName)) hown (mvT hZ (hw _ (List.mem_of_getElem? (i := 75) rfl))) (mvT hZ (hw _ (List.mem_of_getElem? (i := 76) rfl))) (mvT hZ (hw _ (List.mem_of_getElem? (i := 77) rfl))) (mvT hZ (hw _ (List.mem_of_getElem? (i := 78) rfl))) (by decide) (backOf (W := 1) (rm11 l Z a0 hw [] u1 h0 n0 Z0 ) hZ (hw _ (List.mem_of_getElem? (i := 78) rfl)) (hw _ (List.mem_of_getElem? (i := 77) rfl)) (by decide) (by decide)) (g := (mkF m 6 #[.val (.ref u0), .val (.ref u1)] [(.ref u1), (.ref u0)])) rfl (by rw [hml]; rfl) (argsL := [(.ref u1)]) (rest := [(.ref u0)]) (lenOf pd_5 rfl) rfl (by show 2 * 0 + _ ≤ _; exact Nat.le_of_eq rfl) (hb hby d6_6) (fun _ _ => ⟨rfl, e1, (by decide : 0 + 0 ≤ _), (by decide : 0 + 0 ≤ _)⟩)
  dsimp only [Pt.U, Pt.locs, Pt.cells, Pt.slots] at X2 l2 y2 z2 st2 hQ2
  subst l2 y2 z2
  obtain ⟨rfl, N2q, e2⟩ := hQ2
  have N2 := Fr.app N1 N2q
  obtain ⟨T3, h3, X3, e3, W3, st3⟩ := putF X2 hx hZ hown (host := "") (Or.inl (hw _ (List.mem_of_getElem? (i := 39) rfl))) Via.refl e2 F_e0 E_u0 (Or.inr ⟨(hw _ (List.mem_of_getElem? (i := 40) rfl)), rfl, hnm⟩) (hw _ (List.mem_of_getElem? (i := 49) rfl)) (ty := (.object "java/lang/Object")) (by decide) rfl rfl (g := (mkF m 9 #[.val (.ref u0), .val (.ref u1)] [(.ref u1), (.ref u0)])) rfl rfl (hb hby d6_9)
  have Fw3 := F_e0.same W3
  have N3 := Fr.snoc X3 N2 g_u0
  have Z3 : n0 ≤ h3.size := Nat.le_trans Z0 (Keep.of_wr W3).1
  have KK3 := (Keep.refl h0 [u0]).wr W3 (Or.inl (List.mem_of_getElem? (i := 0) rfl))
  have O3 := O0.wr W3 g_u0
  obtain ⟨T4, X4, e4, st4⟩ := getS2 X3 hx hZ hown (Or.inr (hw _ (List.mem_of_getElem? (i := 29) rfl))) Via.refl e3 (S_EMPTY.ext O3.2) (g := (mkF m 13 #[.val (.ref u0), .val (.ref u1)] [(.ref u0)])) rfl (hb hby d6_13)
  obtain ⟨T5, h5, X5, e5, W5, st5⟩ := putF X4 hx hZ hown (host := "") (Or.inl (hw _ (List.mem_of_getElem? (i := 26) rfl))) Via.refl e4 (F_e1.other W3 (Or.inr (slot_ne (Or.inr (hw _ (List.mem_of_getElem? (i := 27) rfl))) (Or.inr (hw _ (List.mem_of_getElem? (i := 40) rfl))) (by decide) (t := (.object "java/lang/Object")) (t' := (.object "java/lang/Object")) (by decide) (by decide)))) (E_u0.wr W3) (Or.inr ⟨(hw _ (List.mem_of_getElem? (i := 27) rfl)), rfl, hnm⟩) (hw _ (List.mem_of_getElem? (i := 49) rfl)) (ty := (.object "java/lang/Object")) (by decide) rfl rfl (g := (mkF m 16 #[.val (.ref u0), .val (.ref u1)] [(.ref a_EMPTY), (.ref u0)])) rfl rfl (hb hby d6_16)
  have Fw5 := (F_e1.other W3 (Or.inr (slot_ne (Or.inr (hw _ (List.mem_of_getElem? (i := 27) rfl))) (Or.inr (hw _ (List.mem_of_getElem? (i := 40) rfl))) (by decide) (t := (.object "java/lang/Object")) (t' := (.object "java/lang/Object")) (by decide) (by decide)))).same W5
  have N5 := Fr.snoc X5 N3 g_u0
  have Z5 : n0 ≤ h5.size := Nat.le_trans Z3 (Keep.of_wr W5).1
  have KK5 := KK3.wr W5 (Or.inl (List.mem_of_getElem? (i := 0) rfl))
  have O5 := O3.wr W5 g_u0
  obtain ⟨fs, hr, hrun, hended, hW, hsame⟩ := X5.leave (v := none) (fun _ => rfl)
  refine ⟨_, _, pre0 _ ?_, hrun, hended, _, _, rfl, ?_, ⟨_, rfl⟩, hW, hsame.mono (by decide) (by decide)⟩
  · show Steps p.tables e below (s₁.setTop (mkF m 0 #[.val (.ref u0), .val (.ref u1)] [])) _
    refine XS.aloadN X0.here hx rfl (hb hby d6_0) rfl rfl ?_
    show Steps p.tables e below (s₁.setTop (mkF m 1 #[.val (.ref u0), .val (.ref u1)] [(.ref u0)])) _
    refine st1.trans ?_
    show Steps p.tables e below (T1.setTop (mkF m 4 #[.val (.ref u0), .val (.ref u1)] [])) _
    refine XS.aloadN X1.here hx rfl (hb hby d6_4) rfl rfl ?_
    show Steps p.tables e below (T1.setTop (mkF m 5 #[.val (.ref u0), .val (.ref u1)] [(.ref u0)])) _
    refine XS.aloadN X1.here hx rfl (hb hby d6_5) rfl rfl ?_
    show Steps p.tables e below (T1.setTop (mkF m 6 #[.val (.ref u0), .val (.ref u1)] [(.ref u1), (.ref u0)])) _
    refine st2 _ ?_
    show Steps p.tables e below (T2.setTop (mkF m 9 #[.val (.ref u0), .val (.ref u1)] [(.ref u1), (.ref u0)])) _
    refine st3 _ ?_
    show Steps p.tables e below (T3.setTop (mkF m 12 #[.val (.ref u0), .val (.ref u1)] [])) _
    refine XS.aloadN X3.here hx rfl (hb hby d6_12) rfl rfl ?_
    show Steps p.tables e below (T3.setTop (mkF m 13 #[.val (.ref u0), .val (.ref u1)] [(.ref u0)])) _
    refine st4 _ ?_
    show Steps p.tables e below (T4.setTop (mkF m 16 #[.val (.ref u0), .val (.ref u1)] [(.ref a_EMPTY), (.ref u0)])) _
    refine st5 _ ?_
    show Steps p.tables e below (T5.setTop (mkF m 19 #[.val (.ref u0), .val (.ref u1)] [])) _
    exact X5.returnOut hx Bd.returns (hb hby d6_19) hr
  · show Q6 Z u0 u1 a_EMPTY h0 n0 _ T5.heap _
    rw [e5]
    exact ⟨rfl, N5, KK5, (Fw3.other W5 (Or.inr (slot_ne (Or.inr (hw _ (List.mem_of_getElem? (i := 40) rfl))) (Or.inr (hw _ (List.mem_of_getElem? (i := 27) rfl))) (by decide) (t := (.object "java/lang/Object")) (t' := (.object "java/lang/Object")) (by decide) (by decide)))), Fw5⟩
theorem pd_7 : parseMethodDescriptor "(Ljava/lang/Object;)V" = some ⟨[(.object "java/lang/Object")], none⟩ := by decide +kernel
theorem d5_0 : decode jdk_40_method_37_code 0 = .ok (.new 96, 3) := by decide +kernel
theorem d5_3 : decode jdk_40_method_37_code 3 = .ok (.dup, 1) := by decide +kernel
theorem d5_4 : decode jdk_40_method_37_code 4 = .ok (.aload_n 0, 1) := by decide +kernel
theorem d5_5 : decode jdk_40_method_37_code 5 = .ok (.invokespecial 98, 3) := by decide +kernel
theorem d5_8 : decode jdk_40_method_37_code 8 = .ok (.areturn, 1) := by decide +kernel
theorem pn_java_util_List : plainName "java/util/List" = true := by first | (simp [plainName, overriddenIn]; done) | decide +kernel
theorem ef_5 (m : MethodId) (u0 : Addr) : entryFrame m #[(.ref u0)] 1 = mkF m 0 #[.val (.ref u0)] [] := by first | (simp [entryFrame, mkF, argsToLocals, Value.category]; done) | rfl
def Q5 (Z : State) (u0 : Addr) (a_EMPTY : Addr) (h0 : Heap) (n0 : Nat) (v : Option Value) (h : Heap) (L : List Loc) : Prop := v = some (.ref h0.size) ∧ Fr n0 L ∧ Keep h0 h [] ∧ Exa Z h h0.size "java/util/ImmutableCollections$List12" ∧ Fld Z h h0.size "java/util/ImmutableCollections$List12" "e0" "Ljava/lang/Object;" (.ref u0) ∧ Fld Z h h0.size "java/util/ImmutableCollections$List12" "e1" "Ljava/lang/Object;" (.ref a_EMPTY)
set_option maxRecDepth 65536 in
set_option maxHeartbeats 40000000 in
theorem rm5 (l : Launch) (Z : State) (a0 : Array Value) (hw : ∀ d ∈ tables_1, d.before a0 Z = true) (ws : List Jvm.Cond) (u0 : Addr) (a_EMPTY : Addr) (h0 : Heap) (n0 : Nat) (Z0 : n0 ≤ h0.size) (O0 : Old Z n0 h0) (S_EMPTY : Sta Z Z.heap "java/util/ImmutableCollections" "EMPTY" "Ljava/lang/Object;" (.ref a_EMPTY)) :
    MetFree l (⟨"java/util/List", "of", "(Ljava/lang/Object;)Ljava/util/List;"⟩ : MethodName) (head1 (Jvm.Cond.code (⟨"java/util/List", "of", "(Ljava/lang/Object;)Ljava/util/List;"⟩ : MethodName) jdk_40_method_37_code 1 (some (.object "java/util/List")) :: ws) ({ frames := 5, cells := 1, slots := 2, locals := 62 } : Room)) (fun a U => a = #[(.ref u0)] ∧ Z.Warmed39 U.vm ∧ U.heap = h0) (fun _ _ _ _ _ => True) (fun _ U o U' => ∃ v L, o = .returned v ∧ Q5 Z u0 a_EMPTY h0 n0 v U'.heap L ∧ FrameEnd U o U' L ({ frames := 5, cells := 1, slots := 2, locals := 62 } : Room).cells ({ frames := 5, cells := 1, slots := 2, locals := 62 } : Room).slots) := by
  refine MetFree.of_bodySF (plainFor_of_name pn_java_util_List) hisR ?_
  intro p e s m args below meth c s₁ Bd hml0 hP hK
  obtain ⟨rfl, hZ, hh⟩ := hP
  have hx := Bd.exec
  have hby := Bd.bytes
  have hml : c.maxLocals = 1 := hml0
  have hown : s.vm.findClass "java/util/List" = some m.cls := findClass_of_methodNamed Bd.named
  have hnm := (name_of_methodNamed Bd.named Bd.method).1
  have X0 : Stand p l e ({ frames := 5, cells := 1, slots := 2, locals := 62 } : Room) s m #[(.ref u0)] below meth c s₁ [] 0 0 := Stand.of_body Bd
  have e0 : s₁.heap = h0 := by rw [← hh, Bd.state]; rfl
  have N0 := Fr.nil n0
  have pre0 : ∀ t, Steps p.tables e below (s₁.setTop (mkF m 0 #[.val (.ref u0)] [])) t → Steps p.tables e below (s₁.setTop (entryFrame m #[(.ref u0)] 1)) t := fun t k => castTop (ef_5 m u0) k
  obtain ⟨T1, h1, X1, e1, E1, A1, D1, -, st1⟩ := newO X0 hx hZ hown (hw _ (List.mem_of_getElem? (i := 48) rfl)) (hw _ (List.mem_of_getElem? (i := 49) rfl)) (hw _ (List.mem_of_getElem? (i := 24) rfl)) e0 (g := (mkF m 0 #[.val (.ref u0)] [])) rfl (hb hby d5_0) (by decide) (by decide)
  obtain ⟨b1, g1⟩ : ∃ z, z = h0.size := ⟨_, rfl⟩
  rw [← g1] at A1 D1 st1
  have g_b1 : n0 ≤ b1 := Nat.le_trans Z0 (Nat.le_of_eq g1.symm)
  have sz_b1 : h0.size ≤ b1 := Nat.le_trans (Keep.refl h0 []).1 (Nat.le_of_eq g1.symm)
  have Z1 : n0 ≤ h1.size := Nat.le_trans Z0 E1.1
  have KK1 := (Keep.refl h0 []).ext E1
  have O1 := O0.ext E1
  have F1_e1 : Fld Z h1 b1 "java/util/ImmutableCollections$List12" "e1" "Ljava/lang/Object;" .null := D1 (Or.inr (hw _ (List.mem_of_getElem? (i := 27) rfl))) (ty := (.object "java/lang/Object")) (by decide)
  have F1_e0 : Fld Z h1 b1 "java/util/ImmutableCollections$List12" "e0" "Ljava/lang/Object;" .null := D1 (Or.inr (hw _ (List.mem_of_getElem? (i := 40) rfl))) (ty := (.object "java/lang/Object")) (by decide)
  obtain ⟨_, _, ⟨T2, L2, k2, n2⟩, -, X2, ⟨Lc2, hQ2, l2, y2, z2⟩, st2⟩ := X1.specialBack hx (y := (⟨"java/util/ImmutableCollections$List12", "<init>", "(Ljava/lang/Object;)V"⟩ : MethodName)) rfl hown (mvT hZ (hw _ (List.mem_of_getElem? (i := 50) rfl))) (mvT hZ (hw _ (List.mem_of_getElem? (i := 51) rfl))) (mvT hZ (hw _ (List.mem_of_getElem? (i := 53) rfl))) (by decide) (backOf (W := 1) (rm6 l Z a0 hw [] b1 u0 a_EMPTY h1 n0 Z1 O1 S_EMPTY g_b1 A1 F1_e0 F1_e1) hZ (hw _ (List.mem_of_getElem? (i := 53) rfl)) (hw _ (List.mem_of_getElem? (i := 24) rfl)) (by decide) (by decide)) (g := (mkF m 5 #[.val (.ref u0)] [(.ref u0), (.ref b1), (.ref b1)])) rfl (by rw [hml]; rfl) (Steps.refl _) (a := b1) (argsL := [(.ref u0)]) (rest := [(.ref b1)]) (lenOf pd_7 rfl) rfl (by show 2 * 0 + _ ≤ _; exact Nat.le_of_eq rfl) (hb hby d5_5) (fun _ _ => ⟨rfl, e1, (by decide : 1 + 0 ≤ _), (by decide : 2 + 0 ≤ _)⟩)
  dsimp only [Pt.U, Pt.locs, Pt.cells, Pt.slots] at X2 l2 y2 z2 st2 hQ2
  subst l2 y2 z2
  obtain ⟨rfl, N2q, K2, F2a, F2b⟩ := hQ2
  have N2 := Fr.app N0 N2q
  have Z2 : n0 ≤ T2.heap.size := Nat.le_trans Z1 K2.1
  have KK2 := KK1.trans K2 (allS (P := fun x => x ∈ [] ∨ h0.size ≤ x) (Or.inr sz_b1) all0)
  have O2 := O1.keep K2 (allS g_b1 all0)
  obtain ⟨fs, hr, hrun, hended, hW, hsame⟩ := X2.leave (v := some (.ref b1)) (fun h => by rw [Bd.returns] at h; cases h)
  refine ⟨_, _, pre0 _ ?_, hrun, hended, _, _, rfl, ?_, ⟨_, rfl⟩, hW, hsame.mono (by decide) (by decide)⟩
  · show Steps p.tables e below (s₁.setTop (mkF m 0 #[.val (.ref u0)] [])) _
    refine st1 _ ?_
    show Steps p.tables e below (T1.setTop (mkF m 3 #[.val (.ref u0)] [(.ref b1)])) _
    refine XS.dup X1.here hx rfl (hb hby d5_3) rfl rfl ?_
    show Steps p.tables e below (T1.setTop (mkF m 4 #[.val (.ref u0)] [(.ref b1), (.ref b1)])) _
    refine XS.aloadN X1.here hx rfl (hb hby d5_4) rfl rfl ?_
    show Steps p.tables e below (T1.setTop (mkF m 5 #[.val (.ref u0)] [(.ref u0), (.ref b1), (.ref b1)])) _
    refine st2.trans ?_
    show Steps p.tables e below (T2.setTop (mkF m 8 #[.val (.ref u0)] [(.ref b1)])) _
    jvm_step X2.here [X2.here.top, hx, (hb hby d5_8), X2.method', Bd.returns, Value.isRef, FieldType.isReference]
    first | (intro acts; rw [hr _ acts rfl rfl rfl]) | rw [hr _ _ rfl rfl rfl]
    exact Steps.refl _
  · show Q5 Z u0 a_EMPTY h0 n0 _ T2.heap _
    exact ⟨(by rw [g1]), N2, KK2, (by rw [← g1]; exact (A1.keep K2)), (by rw [← g1]; exact F2a), (by rw [← g1]; exact F2b)⟩
theorem d2_0 : decode prog_19_method_8_code 0 = .ok (.aload_n 0, 1) := by decide +kernel
theorem d2_1 : decode prog_19_method_8_code 1 = .ok (.getstatic 3, 3) := by decide +kernel
theorem d2_4 : decode prog_19_method_8_code 4 = .ok (.if_acmp .ne 9, 3) := by decide +kernel
theorem d2_7 : decode prog_19_method_8_code 7 = .ok (.getstatic 78, 3) := by decide +kernel
theorem d2_10 : decode prog_19_method_8_code 10 = .ok (.goto 7, 3) := by decide +kernel
theorem d2_17 : decode prog_19_method_8_code 17 = .ok (.areturn, 1) := by decide +kernel
theorem pn_com_example_backfill_backfill_engine_Lane : plainName "com/example/backfill/backfill/engine/Lane" = true := by first | (simp [plainName, overriddenIn]; done) | decide +kernel
theorem ef_2U (m : MethodId) (a_UPSTREAM : Addr) : entryFrame m #[(.ref a_UPSTREAM)] 1 = mkF m 0 #[.val (.ref a_UPSTREAM)] [] := by first | (simp [entryFrame, mkF, argsToLocals, Value.category]; done) | rfl
def Q2U (Z : State) (a_UPSTREAM : Addr) (a_ENDPOINTS : Addr) (h0 : Heap) (n0 : Nat) (v : Option Value) (h : Heap) (L : List Loc) : Prop := v = some (.ref a_ENDPOINTS) ∧ Fr n0 L ∧ h = h0
set_option maxRecDepth 65536 in
set_option maxHeartbeats 40000000 in
theorem rm2U (l : Launch) (Z : State) (a0 : Array Value) (hw : ∀ d ∈ tables_1, d.before a0 Z = true) (ws : List Jvm.Cond) (a_UPSTREAM : Addr) (a_ENDPOINTS : Addr) (h0 : Heap) (n0 : Nat) (Z0 : n0 ≤ h0.size) (O0 : Old Z n0 h0) (S_UPSTREAM : Sta Z Z.heap "com/example/backfill/backfill/engine/Lane" "UPSTREAM" "Lcom/example/backfill/backfill/engine/Lane;" (.ref a_UPSTREAM)) (S_ENDPOINTS : Sta Z Z.heap "com/example/backfill/backfill/engine/Lane" "ENDPOINTS" "Ljava/util/List;" (.ref a_ENDPOINTS)) :
    MetFree l (⟨"com/example/backfill/backfill/engine/Lane", "endpoints", "()Ljava/util/List;"⟩ : MethodName) (head1 (Jvm.Cond.code (⟨"com/example/backfill/backfill/engine/Lane", "endpoints", "()Ljava/util/List;"⟩ : MethodName) prog_19_method_8_code 1 (some (.object "java/util/List")) :: ws) ({ frames := 0, cells := 0, slots := 0, locals := 0 } : Room)) (fun a U => a = #[(.ref a_UPSTREAM)] ∧ Z.Warmed39 U.vm ∧ U.heap = h0) (fun _ _ _ _ _ => True) (fun _ U o U' => ∃ v L, o = .returned v ∧ Q2U Z a_UPSTREAM a_ENDPOINTS h0 n0 v U'.heap L ∧ FrameEnd U o U' L ({ frames := 0, cells := 0, slots := 0, locals := 0 } : Room).cells ({ frames := 0, cells := 0, slots := 0, locals := 0 } : Room).slots) := by
  refine MetFree.of_bodySF (plainFor_of_name pn_com_example_backfill_backfill_engine_Lane) hisR ?_
  intro p e s m args below meth c s₁ Bd hml0 hP hK
  obtain ⟨rfl, hZ, hh⟩ := hP
  have hx := Bd.exec
  have hby := Bd.bytes
  have hml : c.maxLocals = 1 := hml0
  have hown : s.vm.findClass "com/example/backfill/backfill/engine/Lane" = some m.cls := findClass_of_methodNamed Bd.named
  have hnm := (name_of_methodNamed Bd.named Bd.method).1
  have X0 : Stand p l e ({ frames := 0, cells := 0, slots := 0, locals := 0 } : Room) s m #[(.ref a_UPSTREAM)] below meth c s₁ [] 0 0 := Stand.of_body Bd
  have e0 : s₁.heap = h0 := by rw [← hh, Bd.state]; rfl
  have N0 := Fr.nil n0
  have pre0 : ∀ t, Steps p.tables e below (s₁.setTop (mkF m 0 #[.val (.ref a_UPSTREAM)] [])) t → Steps p.tables e below (s₁.setTop (entryFrame m #[(.ref a_UPSTREAM)] 1)) t := fun t k => castTop (ef_2U m a_UPSTREAM) k
  obtain ⟨T1, X1, e1, st1⟩ := getS2 X0 hx hZ hown (host := "") (Or.inl (hw _ (List.mem_of_getElem? (i := 13) rfl))) Via.refl e0 (S_UPSTREAM.ext O0.2) (g := (mkF m 1 #[.val (.ref a_UPSTREAM)] [(.ref a_UPSTREAM)])) rfl (hb hby d2_1)
  obtain ⟨T2, X2, e2, st2⟩ := getS2 X1 hx hZ hown (host := "") (Or.inl (hw _ (List.mem_of_getElem? (i := 14) rfl))) Via.refl e1 (S_ENDPOINTS.ext O0.2) (g := (mkF m 7 #[.val (.ref a_UPSTREAM)] [])) rfl (hb hby d2_7)
  obtain ⟨fs, hr, hrun, hended, hW, hsame⟩ := X2.leave (v := some (.ref a_ENDPOINTS)) (fun h => by rw [Bd.returns] at h; cases h)
  refine ⟨_, _, pre0 _ ?_, hrun, hended, _, _, rfl, ?_, ⟨_, rfl⟩, hW, hsame.mono (by decide) (by decide)⟩
  · show Steps p.tables e below (s₁.setTop (mkF m 0 #[.val (.ref a_UPSTREAM)] [])) _
    refine XS.aloadN X0.here hx rfl (hb hby d2_0) rfl rfl ?_
    show Steps p.tables e below (s₁.setTop (mkF m 1 #[.val (.ref a_UPSTREAM)] [(.ref a_UPSTREAM)])) _
    refine st1 _ ?_
    show Steps p.tables e below (T1.setTop (mkF m 4 #[.val (.ref a_UPSTREAM)] [(.ref a_UPSTREAM), (.ref a_UPSTREAM)])) _
    refine Jvm.RoadKit.acmp (g := (mkF m 4 #[.val (.ref a_UPSTREAM)] [(.ref a_UPSTREAM), (.ref a_UPSTREAM)])) X1 hx rfl rfl rfl (pc0 := 4) (pc' := 7) (same := true) rfl (hb hby d2_4) rfl (decide_eq_true rfl) (by decide) (by decide) ?_
    show Steps p.tables e below (T1.setTop (mkF m 7 #[.val (.ref a_UPSTREAM)] [])) _
    refine st2 _ ?_
    show Steps p.tables e below (T2.setTop (mkF m 10 #[.val (.ref a_UPSTREAM)] [(.ref a_ENDPOINTS)])) _
    refine XS.goto X2.here hx rfl (pc0 := 10) (pc' := 17) rfl (hb hby d2_10) (by decide) (by decide) ?_
    show Steps p.tables e below (T2.setTop (mkF m 17 #[.val (.ref a_UPSTREAM)] [(.ref a_ENDPOINTS)])) _
    jvm_step X2.here [X2.here.top, hx, (hb hby d2_17), X2.method', Bd.returns, Value.isRef, FieldType.isReference]
    first | (intro acts; rw [hr _ acts rfl rfl rfl]) | rw [hr _ _ rfl rfl rfl]
    exact Steps.refl _
  · show Q2U Z a_UPSTREAM a_ENDPOINTS h0 n0 _ T2.heap _
    rw [e2]
    exact ⟨rfl, N0, rfl⟩
theorem pd_6 : parseMethodDescriptor "(Ljava/lang/Object;)Ljava/util/List;" = some ⟨[(.object "java/lang/Object")], some (.object "java/util/List")⟩ := by decide +kernel
theorem d2_13 : decode prog_19_method_8_code 13 = .ok (.aload_n 0, 1) := by decide +kernel
theorem d2_14 : decode prog_19_method_8_code 14 = .ok (.invokestatic 69, 3) := by decide +kernel
theorem ef_2N (m : MethodId) (u0 : Addr) : entryFrame m #[(.ref u0)] 1 = mkF m 0 #[.val (.ref u0)] [] := by first | (simp [entryFrame, mkF, argsToLocals, Value.category]; done) | rfl
def Q2N (Z : State) (u0 : Addr) (a_UPSTREAM : Addr) (a_EMPTY : Addr) (h0 : Heap) (n0 : Nat) (v : Option Value) (h : Heap) (L : List Loc) : Prop := v = some (.ref h0.size) ∧ Fr n0 L ∧ Keep h0 h [] ∧ Exa Z h h0.size "java/util/ImmutableCollections$List12" ∧ Fld Z h h0.size "java/util/ImmutableCollections$List12" "e0" "Ljava/lang/Object;" (.ref u0) ∧ Fld Z h h0.size "java/util/ImmutableCollections$List12" "e1" "Ljava/lang/Object;" (.ref a_EMPTY)
set_option maxRecDepth 65536 in
set_option maxHeartbeats 40000000 in
theorem rm2N (l : Launch) (Z : State) (a0 : Array Value) (hw : ∀ d ∈ tables_1, d.before a0 Z = true) (ws : List Jvm.Cond) (u0 : Addr) (a_UPSTREAM : Addr) (a_EMPTY : Addr) (h0 : Heap) (n0 : Nat) (Z0 : n0 ≤ h0.size) (O0 : Old Z n0 h0) (S_UPSTREAM : Sta Z Z.heap "com/example/backfill/backfill/engine/Lane" "UPSTREAM" "Lcom/example/backfill/backfill/engine/Lane;" (.ref a_UPSTREAM)) (S_EMPTY : Sta Z Z.heap "java/util/ImmutableCollections" "EMPTY" "Ljava/lang/Object;" (.ref a_EMPTY)) (hne : u0 ≠ a_UPSTREAM) :
    MetFree l (⟨"com/example/backfill/backfill/engine/Lane", "endpoints", "()Ljava/util/List;"⟩ : MethodName) (head1 (Jvm.Cond.code (⟨"com/example/backfill/backfill/engine/Lane", "endpoints", "()Ljava/util/List;"⟩ : MethodName) prog_19_method_8_code 1 (some (.object "java/util/List")) :: ws) ({ frames := 6, cells := 1, slots := 2, locals := 74 } : Room)) (fun a U => a = #[(.ref u0)] ∧ Z.Warmed39 U.vm ∧ U.heap = h0) (fun _ _ _ _ _ => True) (fun _ U o U' => ∃ v L, o = .returned v ∧ Q2N Z u0 a_UPSTREAM a_EMPTY h0 n0 v U'.heap L ∧ FrameEnd U o U' L ({ frames := 6, cells := 1, slots := 2, locals := 74 } : Room).cells ({ frames := 6, cells := 1, slots := 2, locals := 74 } : Room).slots) := by
  refine MetFree.of_bodySF (plainFor_of_name pn_com_example_backfill_backfill_engine_Lane) hisR ?_
  intro p e s m args below meth c s₁ Bd hml0 hP hK
  obtain ⟨rfl, hZ, hh⟩ := hP
  have hx := Bd.exec
  have hby := Bd.bytes
  have hml : c.maxLocals = 1 := hml0
  have hown : s.vm.findClass "com/example/backfill/backfill/engine/Lane" = some m.cls := findClass_of_methodNamed Bd.named
  have hnm := (name_of_methodNamed Bd.named Bd.method).1
  have X0 : Stand p l e ({ frames := 6, cells := 1, slots := 2, locals := 74 } : Room) s m #[(.ref u0)] below meth c s₁ [] 0 0 := Stand.of_body Bd
  have e0 : s₁.heap = h0 := by rw [← hh, Bd.state]; rfl
  have N0 := Fr.nil n0
  have pre0 : ∀ t, Steps p.tables e below (s₁.setTop (mkF m 0 #[.val (.ref u0)] [])) t → Steps p.tables e below (s₁.setTop (entryFrame m #[(.ref u0)] 1)) t := fun t k => castTop (ef_2N m u0) k
  obtain ⟨T1, X1, e1, st1⟩ := getS2 X0 hx hZ hown (host := "") (Or.inl (hw _ (List.mem_of_getElem? (i := 13) rfl))) Via.refl e0 (S_UPSTREAM.ext O0.2) (g := (mkF m 1 #[.val (.ref u0)] [(.ref u0)])) rfl (hb hby d2_1)
  obtain ⟨_, _, ⟨T2, L2, k2, n2⟩, -, X2, ⟨Lc2, hQ2, l2, y2, z2⟩, st2⟩ := Jvm.LawKit.callS X1 hx (y := (⟨"java/util/List", "of", "(Ljava/lang/Object;)Ljava/util/List;"⟩ : MethodName)) hown (mvT hZ (hw _ (List.mem_of_getElem? (i := 44) rfl))) (mvT hZ (hw _ (List.mem_of_getElem? (i := 45) rfl))) (mvT hZ (hw _ (List.mem_of_getElem? (i := 46) rfl))) (mvT hZ (hw _ (List.mem_of_getElem? (i := 47) rfl))) (by decide) (backOf (W := 0) (rm5 l Z a0 hw [] u0 a_EMPTY h0 n0 Z0 O0 S_EMPTY) hZ (hw _ (List.mem_of_getElem? (i := 47) rfl)) (hw _ (List.mem_of_getElem? (i := 46) rfl)) (by decide) (by decide)) (g := (mkF m 14 #[.val (.ref u0)] [(.ref u0)])) rfl (by rw [hml]; rfl) (argsL := [(.ref u0)]) (rest := []) (lenOf pd_6 rfl) rfl (by show 2 * 0 + _ ≤ _; exact Nat.le_of_eq rfl) (hb hby d2_14) (fun _ _ => ⟨rfl, e1, (by decide : 0 + 1 ≤ _), (by decide : 0 + 2 ≤ _)⟩)
  dsimp only [Pt.U, Pt.locs, Pt.cells, Pt.slots] at X2 l2 y2 z2 st2 hQ2
  subst l2 y2 z2
  obtain ⟨hv2, N2q, K2, A2, F2a, F2b⟩ := hQ2
  obtain ⟨b2, g2⟩ : ∃ z, z = h0.size := ⟨_, rfl⟩
  rw [← g2] at hv2 A2 F2a F2b
  subst hv2
  have g_b2 : n0 ≤ b2 := Nat.le_trans Z0 (Nat.le_of_eq g2.symm)
  have sz_b2 : h0.size ≤ b2 := Nat.le_trans (Keep.refl h0 []).1 (Nat.le_of_eq g2.symm)
  have N2 := Fr.app N0 N2q
  have Z2 : n0 ≤ T2.heap.size := Nat.le_trans Z0 K2.1
  have KK2 := (Keep.refl h0 []).trans K2 all0
  have O2 := O0.keep K2 all0
  obtain ⟨fs, hr, hrun, hended, hW, hsame⟩ := X2.leave (v := some (.ref b2)) (fun h => by rw [Bd.returns] at h; cases h)
  refine ⟨_, _, pre0 _ ?_, hrun, hended, _, _, rfl, ?_, ⟨_, rfl⟩, hW, hsame.mono (by decide) (by decide)⟩
  · show Steps p.tables e below (s₁.setTop (mkF m 0 #[.val (.ref u0)] [])) _
    refine XS.aloadN X0.here hx rfl (hb hby d2_0) rfl rfl ?_
    show Steps p.tables e below (s₁.setTop (mkF m 1 #[.val (.ref u0)] [(.ref u0)])) _
    refine st1 _ ?_
    show Steps p.tables e below (T1.setTop (mkF m 4 #[.val (.ref u0)] [(.ref a_UPSTREAM), (.ref u0)])) _
    refine Jvm.RoadKit.acmp (g := (mkF m 4 #[.val (.ref u0)] [(.ref a_UPSTREAM), (.ref u0)])) X1 hx rfl rfl rfl (pc0 := 4) (pc' := 13) (same := false) rfl (hb hby d2_4) rfl (decide_eq_false fun q => hne (Value.ref.inj q)) (by decide) (by decide) ?_
    show Steps p.tables e below (T1.setTop (mkF m 13 #[.val (.ref u0)] [])) _
    refine XS.aloadN X1.here hx rfl (hb hby d2_13) rfl rfl ?_
    show Steps p.tables e below (T1.setTop (mkF m 14 #[.val (.ref u0)] [(.ref u0)])) _
    refine st2 _ ?_
    show Steps p.tables e below (T2.setTop (mkF m 17 #[.val (.ref u0)] [(.ref b2)])) _
    jvm_step X2.here [X2.here.top, hx, (hb hby d2_17), X2.method', Bd.returns, Value.isRef, FieldType.isReference]
    first | (intro acts; rw [hr _ acts rfl rfl rfl]) | rw [hr _ _ rfl rfl rfl]
    exact Steps.refl _
  · show Q2N Z u0 a_UPSTREAM a_EMPTY h0 n0 _ T2.heap _
    exact ⟨(by rw [g2]), N2, KK2, (by rw [← g2]; exact A2), (by rw [← g2]; exact F2a), (by rw [← g2]; exact F2b)⟩
theorem d3_0 : decode jdk_44_method_3_code 0 = .ok (.aload_n 0, 1) := by decide +kernel
theorem d3_1 : decode jdk_44_method_3_code 1 = .ok (.getfield 24, 3) := by decide +kernel
theorem d3_4 : decode jdk_44_method_3_code 4 = .ok (.getstatic 19, 3) := by decide +kernel
theorem d3_7 : decode jdk_44_method_3_code 7 = .ok (.if_acmp .eq 7, 3) := by decide +kernel
theorem d3_10 : decode jdk_44_method_3_code 10 = .ok (.iconst 2, 1) := by decide +kernel
theorem d3_11 : decode jdk_44_method_3_code 11 = .ok (.goto 4, 3) := by decide +kernel
theorem d3_14 : decode jdk_44_method_3_code 14 = .ok (.iconst 1, 1) := by decide +kernel
theorem d3_15 : decode jdk_44_method_3_code 15 = .ok (.ireturn, 1) := by decide +kernel
theorem ef_3 (m : MethodId) (u0 : Addr) : entryFrame m #[(.ref u0)] 1 = mkF m 0 #[.val (.ref u0)] [] := by first | (simp [entryFrame, mkF, argsToLocals, Value.category]; done) | rfl
def Q3 (Z : State) (u0 : Addr) (w1 : Addr) (a_EMPTY : Addr) (h0 : Heap) (n0 : Nat) (v : Option Value) (h : Heap) (L : List Loc) : Prop := v = some (.int (sz12 w1 a_EMPTY)) ∧ Fr n0 L ∧ h = h0
set_option maxRecDepth 65536 in
set_option maxHeartbeats 40000000 in
theorem rm3 (l : Launch) (Z : State) (a0 : Array Value) (hw : ∀ d ∈ tables_1, d.before a0 Z = true) (ws : List Jvm.Cond) (u0 : Addr) (w1 : Addr) (a_EMPTY : Addr) (h0 : Heap) (n0 : Nat) (Z0 : n0 ≤ h0.size) (O0 : Old Z n0 h0) (S_EMPTY : Sta Z Z.heap "java/util/ImmutableCollections" "EMPTY" "Ljava/lang/Object;" (.ref a_EMPTY)) (F_e1 : Fld Z h0 u0 "java/util/ImmutableCollections$List12" "e1" "Ljava/lang/Object;" (.ref w1)) :
    MetFree l (⟨"java/util/ImmutableCollections$List12", "size", "()I"⟩ : MethodName) (head1 (Jvm.Cond.code (⟨"java/util/ImmutableCollections$List12", "size", "()I"⟩ : MethodName) jdk_44_method_3_code 1 (some .int) :: ws) ({ frames := 0, cells := 0, slots := 0, locals := 0 } : Room)) (fun a U => a = #[(.ref u0)] ∧ Z.Warmed39 U.vm ∧ U.heap = h0) (fun _ _ _ _ _ => True) (fun _ U o U' => ∃ v L, o = .returned v ∧ Q3 Z u0 w1 a_EMPTY h0 n0 v U'.heap L ∧ FrameEnd U o U' L ({ frames := 0, cells := 0, slots := 0, locals := 0 } : Room).cells ({ frames := 0, cells := 0, slots := 0, locals := 0 } : Room).slots) := by
  refine MetFree.of_bodySF (plainFor_of_name pn_java_util_ImmutableCollections_List12) hisR ?_
  intro p e s m args below meth c s₁ Bd hml0 hP hK
  obtain ⟨rfl, hZ, hh⟩ := hP
  have hx := Bd.exec
  have hby := Bd.bytes
  have hml : c.maxLocals = 1 := hml0
  have hown : s.vm.findClass "java/util/ImmutableCollections$List12" = some m.cls := findClass_of_methodNamed Bd.named
  have hnm := (name_of_methodNamed Bd.named Bd.method).1
  have X0 : Stand p l e ({ frames := 0, cells := 0, slots := 0, locals := 0 } : Room) s m #[(.ref u0)] below meth c s₁ [] 0 0 := Stand.of_body Bd
  have e0 : s₁.heap = h0 := by rw [← hh, Bd.state]; rfl
  have N0 := Fr.nil n0
  have pre0 : ∀ t, Steps p.tables e below (s₁.setTop (mkF m 0 #[.val (.ref u0)] [])) t → Steps p.tables e below (s₁.setTop (entryFrame m #[(.ref u0)] 1)) t := fun t k => castTop (ef_3 m u0) k
  obtain ⟨T1, X1, e1, st1⟩ := getF X0 hx hZ hown (host := "") (Or.inl (hw _ (List.mem_of_getElem? (i := 26) rfl))) Via.refl e0 F_e1 (g := (mkF m 1 #[.val (.ref u0)] [(.ref u0)])) rfl rfl (hb hby d3_1)
  obtain ⟨T2, X2, e2, st2⟩ := getS2 X1 hx hZ hown (Or.inr (hw _ (List.mem_of_getElem? (i := 29) rfl))) Via.refl e1 (S_EMPTY.ext O0.2) (g := (mkF m 4 #[.val (.ref u0)] [(.ref w1)])) rfl (hb hby d3_4)
  by_cases ha7 : w1 = a_EMPTY
  · obtain ⟨fs, hr, hrun, hended, hW, hsame⟩ := X2.leave (v := some (.int (1 : Int32))) (fun h => by rw [Bd.returns] at h; cases h)
    refine ⟨_, _, pre0 _ ?_, hrun, hended, _, _, rfl, ?_, ⟨_, rfl⟩, hW, hsame.mono (by decide) (by decide)⟩
    · show Steps p.tables e below (s₁.setTop (mkF m 0 #[.val (.ref u0)] [])) _
      refine XS.aloadN X0.here hx rfl (hb hby d3_0) rfl rfl ?_
      show Steps p.tables e below (s₁.setTop (mkF m 1 #[.val (.ref u0)] [(.ref u0)])) _
      refine st1 _ ?_
      show Steps p.tables e below (T1.setTop (mkF m 4 #[.val (.ref u0)] [(.ref w1)])) _
      refine st2 _ ?_
      show Steps p.tables e below (T2.setTop (mkF m 7 #[.val (.ref u0)] [(.ref a_EMPTY), (.ref w1)])) _
      refine Jvm.RoadKit.acmp (g := (mkF m 7 #[.val (.ref u0)] [(.ref a_EMPTY), (.ref w1)])) X2 hx rfl rfl rfl (pc0 := 7) (pc' := 14) (same := true) rfl (hb hby d3_7) rfl (decide_eq_true (congrArg Value.ref ha7)) (by decide) (by decide) ?_
      show Steps p.tables e below (T2.setTop (mkF m 14 #[.val (.ref u0)] [])) _
      refine XS.iconst X2.here hx rfl (hb hby d3_14) ?_
      show Steps p.tables e below (T2.setTop (mkF m 15 #[.val (.ref u0)] [(.int (1 : Int32))])) _
      exact retI X2 hx Bd.returns (hb hby d3_15) hr
    · show Q3 Z u0 w1 a_EMPTY h0 n0 _ T2.heap _
      rw [e2]
      exact ⟨(by simp [sz12, ha7]), N0, rfl⟩
  · obtain ⟨fs, hr, hrun, hended, hW, hsame⟩ := X2.leave (v := some (.int (2 : Int32))) (fun h => by rw [Bd.returns] at h; cases h)
    refine ⟨_, _, pre0 _ ?_, hrun, hended, _, _, rfl, ?_, ⟨_, rfl⟩, hW, hsame.mono (by decide) (by decide)⟩
    · show Steps p.tables e below (s₁.setTop (mkF m 0 #[.val (.ref u0)] [])) _
      refine XS.aloadN X0.here hx rfl (hb hby d3_0) rfl rfl ?_
      show Steps p.tables e below (s₁.setTop (mkF m 1 #[.val (.ref u0)] [(.ref u0)])) _
      refine st1 _ ?_
      show Steps p.tables e below (T1.setTop (mkF m 4 #[.val (.ref u0)] [(.ref w1)])) _
      refine st2 _ ?_
      show Steps p.tables e below (T2.setTop (mkF m 7 #[.val (.ref u0)] [(.ref a_EMPTY), (.ref w1)])) _
      refine Jvm.RoadKit.acmp (g := (mkF m 7 #[.val (.ref u0)] [(.ref a_EMPTY), (.ref w1)])) X2 hx rfl rfl rfl (pc0 := 7) (pc' := 10) (same := false) rfl (hb hby d3_7) rfl (decide_eq_false fun q => ha7 (Value.ref.inj q)) (by decide) (by decide) ?_
      show Steps p.tables e below (T2.setTop (mkF m 10 #[.val (.ref u0)] [])) _
      refine XS.iconst X2.here hx rfl (hb hby d3_10) ?_
      show Steps p.tables e below (T2.setTop (mkF m 11 #[.val (.ref u0)] [(.int (2 : Int32))])) _
      refine XS.goto X2.here hx rfl (pc0 := 11) (pc' := 15) rfl (hb hby d3_11) (by decide) (by decide) ?_
      show Steps p.tables e below (T2.setTop (mkF m 15 #[.val (.ref u0)] [(.int (2 : Int32))])) _
      exact retI X2 hx Bd.returns (hb hby d3_15) hr
    · show Q3 Z u0 w1 a_EMPTY h0 n0 _ T2.heap _
      rw [e2]
      exact ⟨(by simp [sz12, ha7]), N0, rfl⟩
theorem d4_0 : decode jdk_44_method_5_code 0 = .ok (.iload_n 1, 1) := by decide +kernel
theorem d4_1 : decode jdk_44_method_5_code 1 = .ok (.ifCond .ne 8, 3) := by decide +kernel
theorem d4_4 : decode jdk_44_method_5_code 4 = .ok (.aload_n 0, 1) := by decide +kernel
theorem d4_5 : decode jdk_44_method_5_code 5 = .ok (.getfield 13, 3) := by decide +kernel
theorem d4_8 : decode jdk_44_method_5_code 8 = .ok (.areturn, 1) := by decide +kernel
theorem ef_4a (m : MethodId) (u0 : Addr) : entryFrame m #[(.ref u0), (.int (0 : Int32))] 2 = mkF m 0 #[.val (.ref u0), .val (.int (0 : Int32))] [] := by first | (simp [entryFrame, mkF, argsToLocals, Value.category]; done) | rfl
def Q4a (Z : State) (u0 : Addr) (w0 : Addr) (h0 : Heap) (n0 : Nat) (v : Option Value) (h : Heap) (L : List Loc) : Prop := v = some (.ref w0) ∧ Fr n0 L ∧ h = h0
set_option maxRecDepth 65536 in
set_option maxHeartbeats 40000000 in
theorem rm4a (l : Launch) (Z : State) (a0 : Array Value) (hw : ∀ d ∈ tables_1, d.before a0 Z = true) (ws : List Jvm.Cond) (u0 : Addr) (w0 : Addr) (h0 : Heap) (n0 : Nat) (Z0 : n0 ≤ h0.size) (O0 : Old Z n0 h0) (F_e0 : Fld Z h0 u0 "java/util/ImmutableCollections$List12" "e0" "Ljava/lang/Object;" (.ref w0)) :
    MetFree l (⟨"java/util/ImmutableCollections$List12", "get", "(I)Ljava/lang/Object;"⟩ : MethodName) (head1 (Jvm.Cond.code (⟨"java/util/ImmutableCollections$List12", "get", "(I)Ljava/lang/Object;"⟩ : MethodName) jdk_44_method_5_code 2 (some (.object "java/lang/Object")) :: ws) ({ frames := 0, cells := 0, slots := 0, locals := 0 } : Room)) (fun a U => a = #[(.ref u0), (.int (0 : Int32))] ∧ Z.Warmed39 U.vm ∧ U.heap = h0) (fun _ _ _ _ _ => True) (fun _ U o U' => ∃ v L, o = .returned v ∧ Q4a Z u0 w0 h0 n0 v U'.heap L ∧ FrameEnd U o U' L ({ frames := 0, cells := 0, slots := 0, locals := 0 } : Room).cells ({ frames := 0, cells := 0, slots := 0, locals := 0 } : Room).slots) := by
  refine MetFree.of_bodySF (plainFor_of_name pn_java_util_ImmutableCollections_List12) hisR ?_
  intro p e s m args below meth c s₁ Bd hml0 hP hK
  obtain ⟨rfl, hZ, hh⟩ := hP
  have hx := Bd.exec
  have hby := Bd.bytes
  have hml : c.maxLocals = 2 := hml0
  have hown : s.vm.findClass "java/util/ImmutableCollections$List12" = some m.cls := findClass_of_methodNamed Bd.named
  have hnm := (name_of_methodNamed Bd.named Bd.method).1
  have X0 : Stand p l e ({ frames := 0, cells := 0, slots := 0, locals := 0 } : Room) s m #[(.ref u0), (.int (0 : Int32))] below meth c s₁ [] 0 0 := Stand.of_body Bd
  have e0 : s₁.heap = h0 := by rw [← hh, Bd.state]; rfl
  have N0 := Fr.nil n0
  have pre0 : ∀ t, Steps p.tables e below (s₁.setTop (mkF m 0 #[.val (.ref u0), .val (.int (0 : Int32))] [])) t → Steps p.tables e below (s₁.setTop (entryFrame m #[(.ref u0), (.int (0 : Int32))] 2)) t := fun t k => castTop (ef_4a m u0) k
  obtain ⟨T1, X1, e1, st1⟩ := getF X0 hx hZ hown (host := "") (Or.inl (hw _ (List.mem_of_getElem? (i := 39) rfl))) Via.refl e0 F_e0 (g := (mkF m 5 #[.val (.ref u0), .val (.int (0 : Int32))] [(.ref u0)])) rfl rfl (hb hby d4_5)
  obtain ⟨fs, hr, hrun, hended, hW, hsame⟩ := X1.leave (v := some (.ref w0)) (fun h => by rw [Bd.returns] at h; cases h)
  refine ⟨_, _, pre0 _ ?_, hrun, hended, _, _, rfl, ?_, ⟨_, rfl⟩, hW, hsame.mono (by decide) (by decide)⟩
  · show Steps p.tables e below (s₁.setTop (mkF m 0 #[.val (.ref u0), .val (.int (0 : Int32))] [])) _
    refine XS.iloadN X0.here hx rfl (hb hby d4_0) rfl ?_
    show Steps p.tables e below (s₁.setTop (mkF m 1 #[.val (.ref u0), .val (.int (0 : Int32))] [(.int (0 : Int32))])) _
    refine XS.ifNo X0.here hx rfl (hb hby d4_1) rfl ((if0 _ _).trans (teq (by decide)).2) ?_
    show Steps p.tables e below (s₁.setTop (mkF m 4 #[.val (.ref u0), .val (.int (0 : Int32))] [])) _
    refine XS.aloadN X0.here hx rfl (hb hby d4_4) rfl rfl ?_
    show Steps p.tables e below (s₁.setTop (mkF m 5 #[.val (.ref u0), .val (.int (0 : Int32))] [(.ref u0)])) _
    refine st1 _ ?_
    show Steps p.tables e below (T1.setTop (mkF m 8 #[.val (.ref u0), .val (.int (0 : Int32))] [(.ref w0)])) _
    jvm_step X1.here [X1.here.top, hx, (hb hby d4_8), X1.method', Bd.returns, Value.isRef, FieldType.isReference]
    first | (intro acts; rw [hr _ acts rfl rfl rfl]) | rw [hr _ _ rfl rfl rfl]
    exact Steps.refl _
  · show Q4a Z u0 w0 h0 n0 _ T1.heap _
    rw [e1]
    exact ⟨rfl, N0, rfl⟩
theorem d4_9 : decode jdk_44_method_5_code 9 = .ok (.iload_n 1, 1) := by decide +kernel
theorem d4_10 : decode jdk_44_method_5_code 10 = .ok (.iconst 1, 1) := by decide +kernel
theorem d4_11 : decode jdk_44_method_5_code 11 = .ok (.if_icmp .ne 18, 3) := by decide +kernel
theorem d4_14 : decode jdk_44_method_5_code 14 = .ok (.aload_n 0, 1) := by decide +kernel
theorem d4_15 : decode jdk_44_method_5_code 15 = .ok (.getfield 24, 3) := by decide +kernel
theorem d4_18 : decode jdk_44_method_5_code 18 = .ok (.getstatic 19, 3) := by decide +kernel
theorem d4_21 : decode jdk_44_method_5_code 21 = .ok (.if_acmp .eq 8, 3) := by decide +kernel
theorem d4_24 : decode jdk_44_method_5_code 24 = .ok (.aload_n 0, 1) := by decide +kernel
theorem d4_25 : decode jdk_44_method_5_code 25 = .ok (.getfield 24, 3) := by decide +kernel
theorem d4_28 : decode jdk_44_method_5_code 28 = .ok (.areturn, 1) := by decide +kernel
theorem ef_4b (m : MethodId) (u0 : Addr) : entryFrame m #[(.ref u0), (.int (1 : Int32))] 2 = mkF m 0 #[.val (.ref u0), .val (.int (1 : Int32))] [] := by first | (simp [entryFrame, mkF, argsToLocals, Value.category]; done) | rfl
def Q4b (Z : State) (u0 : Addr) (w1 : Addr) (a_EMPTY : Addr) (h0 : Heap) (n0 : Nat) (v : Option Value) (h : Heap) (L : List Loc) : Prop := v = some (.ref w1) ∧ Fr n0 L ∧ h = h0
set_option maxRecDepth 65536 in
set_option maxHeartbeats 40000000 in
theorem rm4b (l : Launch) (Z : State) (a0 : Array Value) (hw : ∀ d ∈ tables_1, d.before a0 Z = true) (ws : List Jvm.Cond) (u0 : Addr) (w1 : Addr) (a_EMPTY : Addr) (h0 : Heap) (n0 : Nat) (Z0 : n0 ≤ h0.size) (O0 : Old Z n0 h0) (S_EMPTY : Sta Z Z.heap "java/util/ImmutableCollections" "EMPTY" "Ljava/lang/Object;" (.ref a_EMPTY)) (F_e1 : Fld Z h0 u0 "java/util/ImmutableCollections$List12" "e1" "Ljava/lang/Object;" (.ref w1)) (hne : w1 ≠ a_EMPTY) :
    MetFree l (⟨"java/util/ImmutableCollections$List12", "get", "(I)Ljava/lang/Object;"⟩ : MethodName) (head1 (Jvm.Cond.code (⟨"java/util/ImmutableCollections$List12", "get", "(I)Ljava/lang/Object;"⟩ : MethodName) jdk_44_method_5_code 2 (some (.object "java/lang/Object")) :: ws) ({ frames := 0, cells := 0, slots := 0, locals := 0 } : Room)) (fun a U => a = #[(.ref u0), (.int (1 : Int32))] ∧ Z.Warmed39 U.vm ∧ U.heap = h0) (fun _ _ _ _ _ => True) (fun _ U o U' => ∃ v L, o = .returned v ∧ Q4b Z u0 w1 a_EMPTY h0 n0 v U'.heap L ∧ FrameEnd U o U' L ({ frames := 0, cells := 0, slots := 0, locals := 0 } : Room).cells ({ frames := 0, cells := 0, slots := 0, locals := 0 } : Room).slots) := by
  refine MetFree.of_bodySF (plainFor_of_name pn_java_util_ImmutableCollections_List12) hisR ?_
  intro p e s m args below meth c s₁ Bd hml0 hP hK
  obtain ⟨rfl, hZ, hh⟩ := hP
  have hx := Bd.exec
  have hby := Bd.bytes
  have hml : c.maxLocals = 2 := hml0
  have hown : s.vm.findClass "java/util/ImmutableCollections$List12" = some m.cls := findClass_of_methodNamed Bd.named
  have hnm := (name_of_methodNamed Bd.named Bd.method).1
  have X0 : Stand p l e ({ frames := 0, cells := 0, slots := 0, locals := 0 } : Room) s m #[(.ref u0), (.int (1 : Int32))] below meth c s₁ [] 0 0 := Stand.of_body Bd
  have e0 : s₁.heap = h0 := by rw [← hh, Bd.state]; rfl
  have N0 := Fr.nil n0
  have pre0 : ∀ t, Steps p.tables e below (s₁.setTop (mkF m 0 #[.val (.ref u0), .val (.int (1 : Int32))] [])) t → Steps p.tables e below (s₁.setTop (entryFrame m #[(.ref u0), (.int (1 : Int32))] 2)) t := fun t k => castTop (ef_4b m u0) k
  obtain ⟨T1, X1, e1, st1⟩ := getF X0 hx hZ hown (host := "") (Or.inl (hw _ (List.mem_of_getElem? (i := 26) rfl))) Via.refl e0 F_e1 (g := (mkF m 15 #[.val (.ref u0), .val (.int (1 : Int32))] [(.ref u0)])) rfl rfl (hb hby d4_15)
  obtain ⟨T2, X2, e2, st2⟩ := getS2 X1 hx hZ hown (Or.inr (hw _ (List.mem_of_getElem? (i := 29) rfl))) Via.refl e1 (S_EMPTY.ext O0.2) (g := (mkF m 18 #[.val (.ref u0), .val (.int (1 : Int32))] [(.ref w1)])) rfl (hb hby d4_18)
  obtain ⟨T3, X3, e3, st3⟩ := getF X2 hx hZ hown (host := "") (Or.inl (hw _ (List.mem_of_getElem? (i := 26) rfl))) Via.refl e2 F_e1 (g := (mkF m 25 #[.val (.ref u0), .val (.int (1 : Int32))] [(.ref u0)])) rfl rfl (hb hby d4_25)
  obtain ⟨fs, hr, hrun, hended, hW, hsame⟩ := X3.leave (v := some (.ref w1)) (fun h => by rw [Bd.returns] at h; cases h)
  refine ⟨_, _, pre0 _ ?_, hrun, hended, _, _, rfl, ?_, ⟨_, rfl⟩, hW, hsame.mono (by decide) (by decide)⟩
  · show Steps p.tables e below (s₁.setTop (mkF m 0 #[.val (.ref u0), .val (.int (1 : Int32))] [])) _
    refine XS.iloadN X0.here hx rfl (hb hby d4_0) rfl ?_
    show Steps p.tables e below (s₁.setTop (mkF m 1 #[.val (.ref u0), .val (.int (1 : Int32))] [(.int (1 : Int32))])) _
    refine XS.ifYes X0.here hx rfl (pc0 := 1) (pc' := 9) rfl (hb hby d4_1) rfl ((if0 _ _).trans (feq (by decide)).2) (by decide) (by decide) ?_
    show Steps p.tables e below (s₁.setTop (mkF m 9 #[.val (.ref u0), .val (.int (1 : Int32))] [])) _
    refine XS.iloadN X0.here hx rfl (hb hby d4_9) rfl ?_
    show Steps p.tables e below (s₁.setTop (mkF m 10 #[.val (.ref u0), .val (.int (1 : Int32))] [(.int (1 : Int32))])) _
    refine XS.iconst X0.here hx rfl (hb hby d4_10) ?_
    show Steps p.tables e below (s₁.setTop (mkF m 11 #[.val (.ref u0), .val (.int (1 : Int32))] [(.int (1 : Int32)), (.int (1 : Int32))])) _
    refine XS.icmpNo X0.here hx rfl (hb hby d4_11) rfl (teq (by decide)).2 ?_
    show Steps p.tables e below (s₁.setTop (mkF m 14 #[.val (.ref u0), .val (.int (1 : Int32))] [])) _
    refine XS.aloadN X0.here hx rfl (hb hby d4_14) rfl rfl ?_
    show Steps p.tables e below (s₁.setTop (mkF m 15 #[.val (.ref u0), .val (.int (1 : Int32))] [(.ref u0)])) _
    refine st1 _ ?_
    show Steps p.tables e below (T1.setTop (mkF m 18 #[.val (.ref u0), .val (.int (1 : Int32))] [(.ref w1)])) _
    refine st2 _ ?_
    show Steps p.tables e below (T2.setTop (mkF m 21 #[.val (.ref u0), .val (.int (1 : Int32))] [(.ref a_EMPTY), (.ref w1)])) _
    refine Jvm.RoadKit.acmp (g := (mkF m 21 #[.val (.ref u0), .val (.int (1 : Int32))] [(.ref a_EMPTY), (.ref w1)])) X2 hx rfl rfl rfl (pc0 := 21) (pc' := 24) (same := false) rfl (hb hby d4_21) rfl (decide_eq_false fun q => hne (Value.ref.inj q)) (by decide) (by decide) ?_
    show Steps p.tables e below (T2.setTop (mkF m 24 #[.val (.ref u0), .val (.int (1 : Int32))] [])) _
    refine XS.aloadN X2.here hx rfl (hb hby d4_24) rfl rfl ?_
    show Steps p.tables e below (T2.setTop (mkF m 25 #[.val (.ref u0), .val (.int (1 : Int32))] [(.ref u0)])) _
    refine st3 _ ?_
    show Steps p.tables e below (T3.setTop (mkF m 28 #[.val (.ref u0), .val (.int (1 : Int32))] [(.ref w1)])) _
    jvm_step X3.here [X3.here.top, hx, (hb hby d4_28), X3.method', Bd.returns, Value.isRef, FieldType.isReference]
    first | (intro acts; rw [hr _ acts rfl rfl rfl]) | rw [hr _ _ rfl rfl rfl]
    exact Steps.refl _
  · show Q4b Z u0 w1 a_EMPTY h0 n0 _ T3.heap _
    rw [e3]
    exact ⟨rfl, N0, rfl⟩
theorem d1_0 : decode method_2_code 0 = .ok (.iload_n 0, 1) := by decide +kernel
theorem d1_1 : decode method_2_code 1 = .ok (.ldc 7, 2) := by decide +kernel
theorem d1_3 : decode method_2_code 3 = .ok (.iand, 1) := by decide +kernel
theorem d1_4 : decode method_2_code 4 = .ok (.iconst 3, 1) := by decide +kernel
theorem d1_5 : decode method_2_code 5 = .ok (.irem, 1) := by decide +kernel
theorem d1_6 : decode method_2_code 6 = .ok (.istore_n 1, 1) := by decide +kernel
theorem d1_7 : decode method_2_code 7 = .ok (.iload_n 1, 1) := by decide +kernel
theorem d1_8 : decode method_2_code 8 = .ok (.ifCond .ne 7, 3) := by decide +kernel
theorem d1_11 : decode method_2_code 11 = .ok (.getstatic 8, 3) := by decide +kernel
theorem d1_14 : decode method_2_code 14 = .ok (.areturn, 1) := by decide +kernel
theorem d1_15 : decode method_2_code 15 = .ok (.iload_n 1, 1) := by decide +kernel
theorem d1_16 : decode method_2_code 16 = .ok (.iconst 1, 1) := by decide +kernel
theorem d1_17 : decode method_2_code 17 = .ok (.if_icmp .ne 7, 3) := by decide +kernel
theorem d1_20 : decode method_2_code 20 = .ok (.getstatic 14, 3) := by decide +kernel
theorem d1_23 : decode method_2_code 23 = .ok (.areturn, 1) := by decide +kernel
theorem d1_24 : decode method_2_code 24 = .ok (.getstatic 17, 3) := by decide +kernel
theorem d1_27 : decode method_2_code 27 = .ok (.areturn, 1) := by decide +kernel
theorem pn_com_example_backfill_backfill_engine_LaneEndpointsPinLaw : plainName "com/example/backfill/backfill/engine/LaneEndpointsPinLaw" = true := by first | (simp [plainName, overriddenIn]; done) | decide +kernel
theorem ef_1 (m : MethodId) (u0 : Int32) : entryFrame m #[(.int u0)] 2 = mkF m 0 #[.val (.int u0), .unset] [] := by first | (simp [entryFrame, mkF, argsToLocals, Value.category]; done) | rfl
def Q1 (Z : State) (u0 : Int32) (a_UPSTREAM : Addr) (a_LIST : Addr) (a_ITEM : Addr) (h0 : Heap) (n0 : Nat) (v : Option Value) (h : Heap) (L : List Loc) : Prop := v = some (.ref (pick3 u0 a_UPSTREAM a_LIST a_ITEM)) ∧ Fr n0 L ∧ h = h0
set_option maxRecDepth 65536 in
set_option maxHeartbeats 40000000 in
theorem rm1 (l : Launch) (Z : State) (a0 : Array Value) (hw : ∀ d ∈ tables_1, d.before a0 Z = true) (ws : List Jvm.Cond) (u0 : Int32) (a_UPSTREAM : Addr) (a_LIST : Addr) (a_ITEM : Addr) (h0 : Heap) (n0 : Nat) (Z0 : n0 ≤ h0.size) (O0 : Old Z n0 h0) (S_UPSTREAM : Sta Z Z.heap "com/example/backfill/backfill/engine/Lane" "UPSTREAM" "Lcom/example/backfill/backfill/engine/Lane;" (.ref a_UPSTREAM)) (S_LIST : Sta Z Z.heap "com/example/backfill/backfill/engine/Lane" "LIST" "Lcom/example/backfill/backfill/engine/Lane;" (.ref a_LIST)) (S_ITEM : Sta Z Z.heap "com/example/backfill/backfill/engine/Lane" "ITEM" "Lcom/example/backfill/backfill/engine/Lane;" (.ref a_ITEM)) :
    MetFree l (⟨"com/example/backfill/backfill/engine/LaneEndpointsPinLaw", "pick", "(I)Lcom/example/backfill/backfill/engine/Lane;"⟩ : MethodName) (head1 (Jvm.Cond.code (⟨"com/example/backfill/backfill/engine/LaneEndpointsPinLaw", "pick", "(I)Lcom/example/backfill/backfill/engine/Lane;"⟩ : MethodName) method_2_code 2 (some (.object "com/example/backfill/backfill/engine/Lane")) :: ws) ({ frames := 0, cells := 0, slots := 0, locals := 0 } : Room)) (fun a U => a = #[(.int u0)] ∧ Z.Warmed39 U.vm ∧ U.heap = h0) (fun _ _ _ _ _ => True) (fun _ U o U' => ∃ v L, o = .returned v ∧ Q1 Z u0 a_UPSTREAM a_LIST a_ITEM h0 n0 v U'.heap L ∧ FrameEnd U o U' L ({ frames := 0, cells := 0, slots := 0, locals := 0 } : Room).cells ({ frames := 0, cells := 0, slots := 0, locals := 0 } : Room).slots) := by
  refine MetFree.of_bodySF (plainFor_of_name pn_com_example_backfill_backfill_engine_LaneEndpointsPinLaw) hisR ?_
  intro p e s m args below meth c s₁ Bd hml0 hP hK
  obtain ⟨rfl, hZ, hh⟩ := hP
  have hx := Bd.exec
  have hby := Bd.bytes
  have hml : c.maxLocals = 2 := hml0
  have hown : s.vm.findClass "com/example/backfill/backfill/engine/LaneEndpointsPinLaw" = some m.cls := findClass_of_methodNamed Bd.named
  have hnm := (name_of_methodNamed Bd.named Bd.method).1
  have X0 : Stand p l e ({ frames := 0, cells := 0, slots := 0, locals := 0 } : Room) s m #[(.int u0)] below meth c s₁ [] 0 0 := Stand.of_body Bd
  have e0 : s₁.heap = h0 := by rw [← hh, Bd.state]; rfl
  have N0 := Fr.nil n0
  have pre0 : ∀ t, Steps p.tables e below (s₁.setTop (mkF m 0 #[.val (.int u0), .unset] [])) t → Steps p.tables e below (s₁.setTop (entryFrame m #[(.int u0)] 2)) t := fun t k => castTop (ef_1 m u0) k
  have st1 := X0.ldcInt hx hown (mvT hZ (hw _ (List.mem_of_getElem? (i := 4) rfl))) (g := (mkF m 1 #[.val (.int u0), .unset] [(.int u0)])) rfl (hb hby d1_1)
  by_cases hc8 : ((u0 &&& (2147483647 : Int32)) % (3 : Int32)) = (0 : Int32)
  · obtain ⟨T2, X2, e2, st2⟩ := getS2 X0 hx hZ hown (host := "") (Or.inl (hw _ (List.mem_of_getElem? (i := 5) rfl))) Via.refl e0 (S_UPSTREAM.ext O0.2) (g := (mkF m 11 #[.val (.int u0), .val (.int ((u0 &&& (2147483647 : Int32)) % (3 : Int32)))] [])) rfl (hb hby d1_11)
    obtain ⟨fs, hr, hrun, hended, hW, hsame⟩ := X2.leave (v := some (.ref a_UPSTREAM)) (fun h => by rw [Bd.returns] at h; cases h)
    refine ⟨_, _, pre0 _ ?_, hrun, hended, _, _, rfl, ?_, ⟨_, rfl⟩, hW, hsame.mono (by decide) (by decide)⟩
    · show Steps p.tables e below (s₁.setTop (mkF m 0 #[.val (.int u0), .unset] [])) _
      refine XS.iloadN X0.here hx rfl (hb hby d1_0) rfl ?_
      show Steps p.tables e below (s₁.setTop (mkF m 1 #[.val (.int u0), .unset] [(.int u0)])) _
      refine st1 _ ?_
      show Steps p.tables e below (s₁.setTop (mkF m 3 #[.val (.int u0), .unset] [(.int (2147483647 : Int32)), (.int u0)])) _
      refine XS.iand X0.here hx rfl (hb hby d1_3) rfl ?_
      show Steps p.tables e below (s₁.setTop (mkF m 4 #[.val (.int u0), .unset] [(.int (u0 &&& (2147483647 : Int32)))])) _
      refine XS.iconst X0.here hx rfl (hb hby d1_4) ?_
      show Steps p.tables e below (s₁.setTop (mkF m 5 #[.val (.int u0), .unset] [(.int (3 : Int32)), (.int (u0 &&& (2147483647 : Int32)))])) _
      refine iremM X0 hx rfl (hb hby d1_5) rfl (by decide) ?_
      show Steps p.tables e below (s₁.setTop (mkF m 6 #[.val (.int u0), .unset] [(.int ((u0 &&& (2147483647 : Int32)) % (3 : Int32)))])) _
      refine XS.istoreN X0.here hx rfl (hb hby d1_6) rfl (l' := #[.val (.int u0), .val (.int ((u0 &&& (2147483647 : Int32)) % (3 : Int32)))]) rfl ?_
      show Steps p.tables e below (s₁.setTop (mkF m 7 #[.val (.int u0), .val (.int ((u0 &&& (2147483647 : Int32)) % (3 : Int32)))] [])) _
      refine XS.iloadN X0.here hx rfl (hb hby d1_7) rfl ?_
      show Steps p.tables e below (s₁.setTop (mkF m 8 #[.val (.int u0), .val (.int ((u0 &&& (2147483647 : Int32)) % (3 : Int32)))] [(.int ((u0 &&& (2147483647 : Int32)) % (3 : Int32)))])) _
      refine XS.ifNo X0.here hx rfl (hb hby d1_8) rfl ((if0 _ _).trans (teq hc8).2) ?_
      show Steps p.tables e below (s₁.setTop (mkF m 11 #[.val (.int u0), .val (.int ((u0 &&& (2147483647 : Int32)) % (3 : Int32)))] [])) _
      refine st2 _ ?_
      show Steps p.tables e below (T2.setTop (mkF m 14 #[.val (.int u0), .val (.int ((u0 &&& (2147483647 : Int32)) % (3 : Int32)))] [(.ref a_UPSTREAM)])) _
      jvm_step X2.here [X2.here.top, hx, (hb hby d1_14), X2.method', Bd.returns, Value.isRef, FieldType.isReference]
      first | (intro acts; rw [hr _ acts rfl rfl rfl]) | rw [hr _ _ rfl rfl rfl]
      exact Steps.refl _
    · show Q1 Z u0 a_UPSTREAM a_LIST a_ITEM h0 n0 _ T2.heap _
      rw [e2]
      exact ⟨(by simp [pick3, hc8]), N0, rfl⟩
  · by_cases hc17 : ((u0 &&& (2147483647 : Int32)) % (3 : Int32)) = (1 : Int32)
    · obtain ⟨T3, X3, e3, st3⟩ := getS2 X0 hx hZ hown (host := "") (Or.inl (hw _ (List.mem_of_getElem? (i := 42) rfl))) Via.refl e0 (S_LIST.ext O0.2) (g := (mkF m 20 #[.val (.int u0), .val (.int ((u0 &&& (2147483647 : Int32)) % (3 : Int32)))] [])) rfl (hb hby d1_20)
      obtain ⟨fs, hr, hrun, hended, hW, hsame⟩ := X3.leave (v := some (.ref a_LIST)) (fun h => by rw [Bd.returns] at h; cases h)
      refine ⟨_, _, pre0 _ ?_, hrun, hended, _, _, rfl, ?_, ⟨_, rfl⟩, hW, hsame.mono (by decide) (by decide)⟩
      · show Steps p.tables e below (s₁.setTop (mkF m 0 #[.val (.int u0), .unset] [])) _
        refine XS.iloadN X0.here hx rfl (hb hby d1_0) rfl ?_
        show Steps p.tables e below (s₁.setTop (mkF m 1 #[.val (.int u0), .unset] [(.int u0)])) _
        refine st1 _ ?_
        show Steps p.tables e below (s₁.setTop (mkF m 3 #[.val (.int u0), .unset] [(.int (2147483647 : Int32)), (.int u0)])) _
        refine XS.iand X0.here hx rfl (hb hby d1_3) rfl ?_
        show Steps p.tables e below (s₁.setTop (mkF m 4 #[.val (.int u0), .unset] [(.int (u0 &&& (2147483647 : Int32)))])) _
        refine XS.iconst X0.here hx rfl (hb hby d1_4) ?_
        show Steps p.tables e below (s₁.setTop (mkF m 5 #[.val (.int u0), .unset] [(.int (3 : Int32)), (.int (u0 &&& (2147483647 : Int32)))])) _
        refine iremM X0 hx rfl (hb hby d1_5) rfl (by decide) ?_
        show Steps p.tables e below (s₁.setTop (mkF m 6 #[.val (.int u0), .unset] [(.int ((u0 &&& (2147483647 : Int32)) % (3 : Int32)))])) _
        refine XS.istoreN X0.here hx rfl (hb hby d1_6) rfl (l' := #[.val (.int u0), .val (.int ((u0 &&& (2147483647 : Int32)) % (3 : Int32)))]) rfl ?_
        show Steps p.tables e below (s₁.setTop (mkF m 7 #[.val (.int u0), .val (.int ((u0 &&& (2147483647 : Int32)) % (3 : Int32)))] [])) _
        refine XS.iloadN X0.here hx rfl (hb hby d1_7) rfl ?_
        show Steps p.tables e below (s₁.setTop (mkF m 8 #[.val (.int u0), .val (.int ((u0 &&& (2147483647 : Int32)) % (3 : Int32)))] [(.int ((u0 &&& (2147483647 : Int32)) % (3 : Int32)))])) _
        refine XS.ifYes X0.here hx rfl (pc0 := 8) (pc' := 15) rfl (hb hby d1_8) rfl ((if0 _ _).trans (feq hc8).2) (by decide) (by decide) ?_
        show Steps p.tables e below (s₁.setTop (mkF m 15 #[.val (.int u0), .val (.int ((u0 &&& (2147483647 : Int32)) % (3 : Int32)))] [])) _
        refine XS.iloadN X0.here hx rfl (hb hby d1_15) rfl ?_
        show Steps p.tables e below (s₁.setTop (mkF m 16 #[.val (.int u0), .val (.int ((u0 &&& (2147483647 : Int32)) % (3 : Int32)))] [(.int ((u0 &&& (2147483647 : Int32)) % (3 : Int32)))])) _
        refine XS.iconst X0.here hx rfl (hb hby d1_16) ?_
        show Steps p.tables e below (s₁.setTop (mkF m 17 #[.val (.int u0), .val (.int ((u0 &&& (2147483647 : Int32)) % (3 : Int32)))] [(.int (1 : Int32)), (.int ((u0 &&& (2147483647 : Int32)) % (3 : Int32)))])) _
        refine XS.icmpNo X0.here hx rfl (hb hby d1_17) rfl (teq hc17).2 ?_
        show Steps p.tables e below (s₁.setTop (mkF m 20 #[.val (.int u0), .val (.int ((u0 &&& (2147483647 : Int32)) % (3 : Int32)))] [])) _
        refine st3 _ ?_
        show Steps p.tables e below (T3.setTop (mkF m 23 #[.val (.int u0), .val (.int ((u0 &&& (2147483647 : Int32)) % (3 : Int32)))] [(.ref a_LIST)])) _
        jvm_step X3.here [X3.here.top, hx, (hb hby d1_23), X3.method', Bd.returns, Value.isRef, FieldType.isReference]
        first | (intro acts; rw [hr _ acts rfl rfl rfl]) | rw [hr _ _ rfl rfl rfl]
        exact Steps.refl _
      · show Q1 Z u0 a_UPSTREAM a_LIST a_ITEM h0 n0 _ T3.heap _
        rw [e3]
        exact ⟨(by simp [pick3, hc8, hc17]), N0, rfl⟩
    · obtain ⟨T4, X4, e4, st4⟩ := getS2 X0 hx hZ hown (host := "") (Or.inl (hw _ (List.mem_of_getElem? (i := 43) rfl))) Via.refl e0 (S_ITEM.ext O0.2) (g := (mkF m 24 #[.val (.int u0), .val (.int ((u0 &&& (2147483647 : Int32)) % (3 : Int32)))] [])) rfl (hb hby d1_24)
      obtain ⟨fs, hr, hrun, hended, hW, hsame⟩ := X4.leave (v := some (.ref a_ITEM)) (fun h => by rw [Bd.returns] at h; cases h)
      refine ⟨_, _, pre0 _ ?_, hrun, hended, _, _, rfl, ?_, ⟨_, rfl⟩, hW, hsame.mono (by decide) (by decide)⟩
      · show Steps p.tables e below (s₁.setTop (mkF m 0 #[.val (.int u0), .unset] [])) _
        refine XS.iloadN X0.here hx rfl (hb hby d1_0) rfl ?_
        show Steps p.tables e below (s₁.setTop (mkF m 1 #[.val (.int u0), .unset] [(.int u0)])) _
        refine st1 _ ?_
        show Steps p.tables e below (s₁.setTop (mkF m 3 #[.val (.int u0), .unset] [(.int (2147483647 : Int32)), (.int u0)])) _
        refine XS.iand X0.here hx rfl (hb hby d1_3) rfl ?_
        show Steps p.tables e below (s₁.setTop (mkF m 4 #[.val (.int u0), .unset] [(.int (u0 &&& (2147483647 : Int32)))])) _
        refine XS.iconst X0.here hx rfl (hb hby d1_4) ?_
        show Steps p.tables e below (s₁.setTop (mkF m 5 #[.val (.int u0), .unset] [(.int (3 : Int32)), (.int (u0 &&& (2147483647 : Int32)))])) _
        refine iremM X0 hx rfl (hb hby d1_5) rfl (by decide) ?_
        show Steps p.tables e below (s₁.setTop (mkF m 6 #[.val (.int u0), .unset] [(.int ((u0 &&& (2147483647 : Int32)) % (3 : Int32)))])) _
        refine XS.istoreN X0.here hx rfl (hb hby d1_6) rfl (l' := #[.val (.int u0), .val (.int ((u0 &&& (2147483647 : Int32)) % (3 : Int32)))]) rfl ?_
        show Steps p.tables e below (s₁.setTop (mkF m 7 #[.val (.int u0), .val (.int ((u0 &&& (2147483647 : Int32)) % (3 : Int32)))] [])) _
        refine XS.iloadN X0.here hx rfl (hb hby d1_7) rfl ?_
        show Steps p.tables e below (s₁.setTop (mkF m 8 #[.val (.int u0), .val (.int ((u0 &&& (2147483647 : Int32)) % (3 : Int32)))] [(.int ((u0 &&& (2147483647 : Int32)) % (3 : Int32)))])) _
        refine XS.ifYes X0.here hx rfl (pc0 := 8) (pc' := 15) rfl (hb hby d1_8) rfl ((if0 _ _).trans (feq hc8).2) (by decide) (by decide) ?_
        show Steps p.tables e below (s₁.setTop (mkF m 15 #[.val (.int u0), .val (.int ((u0 &&& (2147483647 : Int32)) % (3 : Int32)))] [])) _
        refine XS.iloadN X0.here hx rfl (hb hby d1_15) rfl ?_
        show Steps p.tables e below (s₁.setTop (mkF m 16 #[.val (.int u0), .val (.int ((u0 &&& (2147483647 : Int32)) % (3 : Int32)))] [(.int ((u0 &&& (2147483647 : Int32)) % (3 : Int32)))])) _
        refine XS.iconst X0.here hx rfl (hb hby d1_16) ?_
        show Steps p.tables e below (s₁.setTop (mkF m 17 #[.val (.int u0), .val (.int ((u0 &&& (2147483647 : Int32)) % (3 : Int32)))] [(.int (1 : Int32)), (.int ((u0 &&& (2147483647 : Int32)) % (3 : Int32)))])) _
        refine XS.icmpYes X0.here hx rfl (pc0 := 17) (pc' := 24) rfl (hb hby d1_17) rfl (feq hc17).2 (by decide) (by decide) ?_
        show Steps p.tables e below (s₁.setTop (mkF m 24 #[.val (.int u0), .val (.int ((u0 &&& (2147483647 : Int32)) % (3 : Int32)))] [])) _
        refine st4 _ ?_
        show Steps p.tables e below (T4.setTop (mkF m 27 #[.val (.int u0), .val (.int ((u0 &&& (2147483647 : Int32)) % (3 : Int32)))] [(.ref a_ITEM)])) _
        jvm_step X4.here [X4.here.top, hx, (hb hby d1_27), X4.method', Bd.returns, Value.isRef, FieldType.isReference]
        first | (intro acts; rw [hr _ acts rfl rfl rfl]) | rw [hr _ _ rfl rfl rfl]
        exact Steps.refl _
      · show Q1 Z u0 a_UPSTREAM a_LIST a_ITEM h0 n0 _ T4.heap _
        rw [e4]
        exact ⟨(by simp [pick3, hc8, hc17]), N0, rfl⟩
theorem pd_3 : parseMethodDescriptor "(I)Lcom/example/backfill/backfill/engine/Lane;" = some ⟨[.int], some (.object "com/example/backfill/backfill/engine/Lane")⟩ := by decide +kernel
theorem pd_1 : parseMethodDescriptor "()Ljava/util/List;" = some ⟨[], some (.object "java/util/List")⟩ := by decide +kernel
theorem pd_0 : parseMethodDescriptor "()I" = some ⟨[], some .int⟩ := by decide +kernel
theorem pd_4 : parseMethodDescriptor "(I)Ljava/lang/Object;" = some ⟨[.int], some (.object "java/lang/Object")⟩ := by decide +kernel
theorem ef_0 (m : MethodId) (u0 : Int32) (u1 : Int32) : entryFrame m #[(.int u0), (.int u1)] maxLocals = mkF m 0 #[.val (.int u0), .val (.int u1), .unset, .unset, .unset, .unset, .unset, .unset, .unset] [] := by first | (simp [entryFrame, mkF, argsToLocals, Value.category, maxLocals]; done) | rfl
def Q0 (Z : State) (u0 : Int32) (u1 : Int32) (a_UPSTREAM : Addr) (a_LIST : Addr) (a_ITEM : Addr) (a_ENDPOINTS : Addr) (a_EMPTY : Addr) (h0 : Heap) (n0 : Nat) (v : Option Value) (h : Heap) (L : List Loc) : Prop := v = some (.int (1 : Int32)) ∧ Fr n0 L
set_option maxRecDepth 65536 in
set_option maxHeartbeats 40000000 in
theorem rm0 (l : Launch) (Z : State) (a0 : Array Value) (hw : ∀ d ∈ tables_1, d.before a0 Z = true) (ws : List Jvm.Cond) (u0 : Int32) (u1 : Int32) (a_UPSTREAM : Addr) (a_LIST : Addr) (a_ITEM : Addr) (a_ENDPOINTS : Addr) (a_EMPTY : Addr) (h0 : Heap) (n0 : Nat) (Z0 : n0 ≤ h0.size) (O0 : Old Z n0 h0) (S_UPSTREAM : Sta Z Z.heap "com/example/backfill/backfill/engine/Lane" "UPSTREAM" "Lcom/example/backfill/backfill/engine/Lane;" (.ref a_UPSTREAM)) (S_LIST : Sta Z Z.heap "com/example/backfill/backfill/engine/Lane" "LIST" "Lcom/example/backfill/backfill/engine/Lane;" (.ref a_LIST)) (S_ITEM : Sta Z Z.heap "com/example/backfill/backfill/engine/Lane" "ITEM" "Lcom/example/backfill/backfill/engine/Lane;" (.ref a_ITEM)) (S_ENDPOINTS : Sta Z Z.heap "com/example/backfill/backfill/engine/Lane" "ENDPOINTS" "Ljava/util/List;" (.ref a_ENDPOINTS)) (S_EMPTY : Sta Z Z.heap "java/util/ImmutableCollections" "EMPTY" "Ljava/lang/Object;" (.ref a_EMPTY)) (E_a_UPSTREAM : Exa Z Z.heap a_UPSTREAM "com/example/backfill/backfill/engine/Lane") (E_a_LIST : Exa Z Z.heap a_LIST "com/example/backfill/backfill/engine/Lane") (E_a_ITEM : Exa Z Z.heap a_ITEM "com/example/backfill/backfill/engine/Lane") (E_a_ENDPOINTS : Exa Z Z.heap a_ENDPOINTS "java/util/ImmutableCollections$List12") (F_ENDPOINTS_e0 : Fld Z Z.heap a_ENDPOINTS "java/util/ImmutableCollections$List12" "e0" "Ljava/lang/Object;" (.ref a_LIST)) (F_ENDPOINTS_e1 : Fld Z Z.heap a_ENDPOINTS "java/util/ImmutableCollections$List12" "e1" "Ljava/lang/Object;" (.ref a_ITEM)) (ne_UPSTREAM_LIST : a_UPSTREAM ≠ a_LIST) (ne_UPSTREAM_ITEM : a_UPSTREAM ≠ a_ITEM) (ne_LIST_ITEM : a_LIST ≠ a_ITEM) (ne_ITEM_EMPTY : a_ITEM ≠ a_EMPTY) :
    MetFree l x (head1 (Jvm.Cond.code x code maxLocals ret :: ws) room_1) (fun a U => a = #[(.int u0), (.int u1)] ∧ Z.Warmed39 U.vm ∧ U.heap = h0) (fun _ _ _ _ _ => True) (fun _ U o U' => ∃ v L, o = .returned v ∧ Q0 Z u0 u1 a_UPSTREAM a_LIST a_ITEM a_ENDPOINTS a_EMPTY h0 n0 v U'.heap L ∧ FrameEnd U o U' L room_1.cells room_1.slots) := by
  refine MetFree.of_bodySF (plainFor_of_name pn_com_example_backfill_backfill_engine_LaneEndpointsPinLaw) hisR ?_
  intro p e s m args below meth c s₁ Bd hml0 hP hK
  obtain ⟨rfl, hZ, hh⟩ := hP
  have hx := Bd.exec
  have hby := Bd.bytes
  have hml : c.maxLocals = 9 := hml0
  have hown : s.vm.findClass "com/example/backfill/backfill/engine/LaneEndpointsPinLaw" = some m.cls := findClass_of_methodNamed Bd.named
  have hnm := (name_of_methodNamed Bd.named Bd.method).1
  have X0 : Stand p l e room_1 s m #[(.int u0), (.int u1)] below meth c s₁ [] 0 0 := Stand.of_body Bd
  have e0 : s₁.heap = h0 := by rw [← hh, Bd.state]; rfl
  have N0 := Fr.nil n0
  have pre0 : ∀ t, Steps p.tables e below (s₁.setTop (mkF m 0 #[.val (.int u0), .val (.int u1), .unset, .unset, .unset, .unset, .unset, .unset, .unset] [])) t → Steps p.tables e below (s₁.setTop (entryFrame m #[(.int u0), (.int u1)] maxLocals)) t := fun t k => castTop (ef_0 m u0 u1) k
  rcases own_pick u0 a_UPSTREAM a_LIST a_ITEM with hp0 | hp0 | hp0
  · rcases own_pick u1 a_UPSTREAM a_LIST a_ITEM with hp1 | hp1 | hp1
    · obtain ⟨_, _, ⟨T1, L1, k1, n1⟩, -, X1, ⟨Lc1, hQ1, l1, y1, z1⟩, st1⟩ := Jvm.LawKit.callS X0 hx (y := (⟨"com/example/backfill/backfill/engine/LaneEndpointsPinLaw", "pick", "(I)Lcom/example/backfill/backfill/engine/Lane;"⟩ : MethodName)) hown (mvT hZ (hw _ (List.mem_of_getElem? (i := 0) rfl))) (mvT hZ (hw _ (List.mem_of_getElem? (i := 1) rfl))) (mvT hZ (hw _ (List.mem_of_getElem? (i := 2) rfl))) (mvT hZ (hw _ (List.mem_of_getElem? (i := 3) rfl))) (by decide) (backOf (W := 0) (rm1 l Z a0 hw [] u0 a_UPSTREAM a_LIST a_ITEM h0 n0 Z0 O0 S_UPSTREAM S_LIST S_ITEM) hZ (hw _ (List.mem_of_getElem? (i := 3) rfl)) (hw _ (List.mem_of_getElem? (i := 2) rfl)) (by decide) (by decide)) (g := (mkF m 1 #[.val (.int u0), .val (.int u1), .unset, .unset, .unset, .unset, .unset, .unset, .unset] [(.int u0)])) rfl (by rw [hml]; rfl) (argsL := [(.int u0)]) (rest := []) (lenOf pd_3 rfl) rfl (by show 2 * 0 + _ ≤ _; exact Nat.le_of_eq rfl) (hb hby at_1) (fun _ _ => ⟨rfl, e0, (by decide : 0 + 0 ≤ _), (by decide : 0 + 0 ≤ _)⟩)
      dsimp only [Pt.U, Pt.locs, Pt.cells, Pt.slots] at X1 l1 y1 z1 st1 hQ1
      subst l1 y1 z1
      obtain ⟨hv1, N1q, e1⟩ := hQ1
      rw [hp0] at hv1
      subst hv1
      have N1 := Fr.app N0 N1q
      obtain ⟨_, _, ⟨T2, L2, k2, n2⟩, -, X2, ⟨Lc2, hQ2, l2, y2, z2⟩, st2⟩ := Jvm.LawKit.callS X1 hx (y := (⟨"com/example/backfill/backfill/engine/LaneEndpointsPinLaw", "pick", "(I)Lcom/example/backfill/backfill/engine/Lane;"⟩ : MethodName)) hown (mvT hZ (hw _ (List.mem_of_getElem? (i := 0) rfl))) (mvT hZ (hw _ (List.mem_of_getElem? (i := 1) rfl))) (mvT hZ (hw _ (List.mem_of_getElem? (i := 2) rfl))) (mvT hZ (hw _ (List.mem_of_getElem? (i := 3) rfl))) (by decide) (backOf (W := 0) (rm1 l Z a0 hw [] u1 a_UPSTREAM a_LIST a_ITEM h0 n0 Z0 O0 S_UPSTREAM S_LIST S_ITEM) hZ (hw _ (List.mem_of_getElem? (i := 3) rfl)) (hw _ (List.mem_of_getElem? (i := 2) rfl)) (by decide) (by decide)) (g := (mkF m 6 #[.val (.int u0), .val (.int u1), .val (.ref a_UPSTREAM), .unset, .unset, .unset, .unset, .unset, .unset] [(.int u1)])) rfl (by rw [hml]; rfl) (argsL := [(.int u1)]) (rest := []) (lenOf pd_3 rfl) rfl (by show 2 * 0 + _ ≤ _; exact Nat.le_of_eq rfl) (hb hby at_6) (fun _ _ => ⟨rfl, e1, (by decide : 0 + 0 ≤ _), (by decide : 0 + 0 ≤ _)⟩)
      dsimp only [Pt.U, Pt.locs, Pt.cells, Pt.slots] at X2 l2 y2 z2 st2 hQ2
      subst l2 y2 z2
      obtain ⟨hv2, N2q, e2⟩ := hQ2
      rw [hp1] at hv2
      subst hv2
      have N2 := Fr.app N1 N2q
      obtain ⟨cq3, kq3, q3a, q3b, q3c⟩ := isOf hZ e2 (E_a_UPSTREAM.ext O0.2)
      obtain ⟨_, _, ⟨T3, L3, k3, n3⟩, -, X3, ⟨Lc3, hQ3, l3, y3, z3⟩, st3⟩ := X2.virtualBack hx (y := (⟨"com/example/backfill/backfill/engine/Lane", "endpoints", "()Ljava/util/List;"⟩ : MethodName)) (z := (⟨"com/example/backfill/backfill/engine/Lane", "endpoints", "()Ljava/util/List;"⟩ : MethodName)) hown (mvT hZ (hw _ (List.mem_of_getElem? (i := 8) rfl))) (mvT hZ (hw _ (List.mem_of_getElem? (i := 9) rfl))) (notFace_of_selects (args := #[]) (mvT hZ (hw _ (List.mem_of_getElem? (i := 11) rfl)))) (mvT hZ (hw _ (List.mem_of_getElem? (i := 11) rfl))) (mvT hZ (hw _ (List.mem_of_getElem? (i := 10) rfl))) (by decide) (backOf (W := 0) (rm2U l Z a0 hw [] a_UPSTREAM a_ENDPOINTS h0 n0 Z0 O0 S_UPSTREAM S_ENDPOINTS) hZ (hw _ (List.mem_of_getElem? (i := 12) rfl)) (hw _ (List.mem_of_getElem? (i := 6) rfl)) (by decide) (by decide)) q3a q3c (g := (mkF m 11 #[.val (.int u0), .val (.int u1), .val (.ref a_UPSTREAM), .val (.ref a_UPSTREAM), .unset, .unset, .unset, .unset, .unset] [(.ref a_UPSTREAM)])) rfl (by rw [hml]; rfl) (Steps.refl _) (argsL := []) (rest := []) (lenOf pd_1 rfl) rfl (by show 2 * 0 + _ ≤ _; exact Nat.le_of_eq rfl) (hb hby at_11) (fun _ _ => ⟨rfl, e2, (by decide : 0 + 0 ≤ _), (by decide : 0 + 0 ≤ _)⟩)
      dsimp only [Pt.U, Pt.locs, Pt.cells, Pt.slots] at X3 l3 y3 z3 st3 hQ3
      subst l3 y3 z3
      obtain ⟨rfl, N3q, e3⟩ := hQ3
      have N3 := Fr.app N2 N3q
      obtain ⟨cq4, kq4, q4a, q4b, q4c⟩ := isOf hZ e3 (E_a_ENDPOINTS.ext O0.2)
      obtain ⟨_, _, ⟨T4, L4, k4, n4⟩, -, X4, ⟨Lc4, hQ4, l4, y4, z4⟩, st4⟩ := X3.interfaceBack hx (xi := (⟨"java/util/List", "size", "()I"⟩ : MethodName)) (y := (⟨"java/util/ImmutableCollections$List12", "size", "()I"⟩ : MethodName)) hown (mvT hZ (hw _ (List.mem_of_getElem? (i := 16) rfl))) (mvT hZ (hw _ (List.mem_of_getElem? (i := 17) rfl))) (mvT hZ (hw _ (List.mem_of_getElem? (i := 18) rfl))) (mvT hZ (hw _ (List.mem_of_getElem? (i := 19) rfl))) (mvT hZ (hw _ (List.mem_of_getElem? (i := 20) rfl))) (mvT hZ (hw _ (List.mem_of_getElem? (i := 21) rfl))) (mvT hZ (hw _ (List.mem_of_getElem? (i := 22) rfl))) (mvT hZ (hw _ (List.mem_of_getElem? (i := 23) rfl))) (by decide) (backOf (W := 0) (rm3 l Z a0 hw [] a_ENDPOINTS a_ITEM a_EMPTY h0 n0 Z0 O0 S_EMPTY (F_ENDPOINTS_e1.ext O0.2)) hZ (hw _ (List.mem_of_getElem? (i := 25) rfl)) (hw _ (List.mem_of_getElem? (i := 24) rfl)) (by decide) (by decide)) q4a q4b q4c (g := (mkF m 18 #[.val (.int u0), .val (.int u1), .val (.ref a_UPSTREAM), .val (.ref a_UPSTREAM), .val (.ref a_ENDPOINTS), .unset, .unset, .unset, .unset] [(.ref a_ENDPOINTS)])) rfl (by rw [hml]; rfl) (Steps.refl _) (argsL := []) (rest := []) (lenOf pd_0 rfl) rfl (by show 2 * 0 + _ ≤ _; exact Nat.le_of_eq rfl) (hb hby at_18) (fun _ _ => ⟨rfl, e3, (by decide : 0 + 0 ≤ _), (by decide : 0 + 0 ≤ _)⟩)
      dsimp only [Pt.U, Pt.locs, Pt.cells, Pt.slots] at X4 l4 y4 z4 st4 hQ4
      subst l4 y4 z4
      obtain ⟨hv4, N4q, e4⟩ := hQ4
      rw [show sz12 a_ITEM a_EMPTY = (2 : Int32) from by simp [sz12, ne_ITEM_EMPTY]] at hv4
      subst hv4
      have N4 := Fr.app N3 N4q
      obtain ⟨T5, X5, e5, st5⟩ := getS2 X4 hx hZ hown (host := "") (Or.inl (hw _ (List.mem_of_getElem? (i := 5) rfl))) Via.refl e4 (S_UPSTREAM.ext O0.2) (g := (mkF m 26 #[.val (.int u0), .val (.int u1), .val (.ref a_UPSTREAM), .val (.ref a_UPSTREAM), .val (.ref a_ENDPOINTS), .val (.int (2 : Int32)), .unset, .unset, .unset] [(.ref a_UPSTREAM)])) rfl (hb hby at_26)
      obtain ⟨cq6, kq6, q6a, q6b, q6c⟩ := isOf hZ e5 (E_a_ENDPOINTS.ext O0.2)
      obtain ⟨_, _, ⟨T6, L6, k6, n6⟩, -, X6, ⟨Lc6, hQ6, l6, y6, z6⟩, st6⟩ := X5.interfaceBack hx (xi := (⟨"java/util/List", "get", "(I)Ljava/lang/Object;"⟩ : MethodName)) (y := (⟨"java/util/ImmutableCollections$List12", "get", "(I)Ljava/lang/Object;"⟩ : MethodName)) hown (mvT hZ (hw _ (List.mem_of_getElem? (i := 31) rfl))) (mvT hZ (hw _ (List.mem_of_getElem? (i := 32) rfl))) (mvT hZ (hw _ (List.mem_of_getElem? (i := 33) rfl))) (mvT hZ (hw _ (List.mem_of_getElem? (i := 34) rfl))) (mvT hZ (hw _ (List.mem_of_getElem? (i := 35) rfl))) (mvT hZ (hw _ (List.mem_of_getElem? (i := 36) rfl))) (mvT hZ (hw _ (List.mem_of_getElem? (i := 37) rfl))) (mvT hZ (hw _ (List.mem_of_getElem? (i := 23) rfl))) (by decide) (backOf (W := 0) (rm4a l Z a0 hw [] a_ENDPOINTS a_LIST h0 n0 Z0 O0 (F_ENDPOINTS_e0.ext O0.2)) hZ (hw _ (List.mem_of_getElem? (i := 38) rfl)) (hw _ (List.mem_of_getElem? (i := 24) rfl)) (by decide) (by decide)) q6a q6b q6c (g := (mkF m 51 #[.val (.int u0), .val (.int u1), .val (.ref a_UPSTREAM), .val (.ref a_UPSTREAM), .val (.ref a_ENDPOINTS), .val (.int (2 : Int32)), .val (.int (2 : Int32)), .unset, .unset] [(.int (0 : Int32)), (.ref a_ENDPOINTS)])) rfl (by rw [hml]; rfl) (Steps.refl _) (argsL := [(.int (0 : Int32))]) (rest := []) (lenOf pd_4 rfl) rfl (by show 2 * 0 + _ ≤ _; exact Nat.le_of_eq rfl) (hb hby at_51) (fun _ _ => ⟨rfl, e5, (by decide : 0 + 0 ≤ _), (by decide : 0 + 0 ≤ _)⟩)
      dsimp only [Pt.U, Pt.locs, Pt.cells, Pt.slots] at X6 l6 y6 z6 st6 hQ6
      subst l6 y6 z6
      obtain ⟨rfl, N6q, e6⟩ := hQ6
      have N6 := Fr.app N4 N6q
      obtain ⟨cq7, kq7, q7a, q7b, q7c⟩ := isOf hZ e6 (E_a_ENDPOINTS.ext O0.2)
      obtain ⟨_, _, ⟨T7, L7, k7, n7⟩, -, X7, ⟨Lc7, hQ7, l7, y7, z7⟩, st7⟩ := X6.interfaceBack hx (xi := (⟨"java/util/List", "get", "(I)Ljava/lang/Object;"⟩ : MethodName)) (y := (⟨"java/util/ImmutableCollections$List12", "get", "(I)Ljava/lang/Object;"⟩ : MethodName)) hown (mvT hZ (hw _ (List.mem_of_getElem? (i := 31) rfl))) (mvT hZ (hw _ (List.mem_of_getElem? (i := 32) rfl))) (mvT hZ (hw _ (List.mem_of_getElem? (i := 33) rfl))) (mvT hZ (hw _ (List.mem_of_getElem? (i := 34) rfl))) (mvT hZ (hw _ (List.mem_of_getElem? (i := 35) rfl))) (mvT hZ (hw _ (List.mem_of_getElem? (i := 36) rfl))) (mvT hZ (hw _ (List.mem_of_getElem? (i := 37) rfl))) (mvT hZ (hw _ (List.mem_of_getElem? (i := 23) rfl))) (by decide) (backOf (W := 0) (rm4b l Z a0 hw [] a_ENDPOINTS a_ITEM a_EMPTY h0 n0 Z0 O0 S_EMPTY (F_ENDPOINTS_e1.ext O0.2) ne_ITEM_EMPTY) hZ (hw _ (List.mem_of_getElem? (i := 38) rfl)) (hw _ (List.mem_of_getElem? (i := 24) rfl)) (by decide) (by decide)) q7a q7b q7c (g := (mkF m 69 #[.val (.int u0), .val (.int u1), .val (.ref a_UPSTREAM), .val (.ref a_UPSTREAM), .val (.ref a_ENDPOINTS), .val (.int (2 : Int32)), .val (.int (2 : Int32)), .unset, .unset] [(.int (1 : Int32)), (.ref a_ENDPOINTS)])) rfl (by rw [hml]; rfl) (Steps.refl _) (argsL := [(.int (1 : Int32))]) (rest := []) (lenOf pd_4 rfl) rfl (by show 2 * 0 + _ ≤ _; exact Nat.le_of_eq rfl) (hb hby at_69) (fun _ _ => ⟨rfl, e6, (by decide : 0 + 0 ≤ _), (by decide : 0 + 0 ≤ _)⟩)
      dsimp only [Pt.U, Pt.locs, Pt.cells, Pt.slots] at X7 l7 y7 z7 st7 hQ7
      subst l7 y7 z7
      obtain ⟨rfl, N7q, e7⟩ := hQ7
      have N7 := Fr.app N6 N7q
      obtain ⟨T8, X8, e8, st8⟩ := getS2 X7 hx hZ hown (host := "") (Or.inl (hw _ (List.mem_of_getElem? (i := 5) rfl))) Via.refl e7 (S_UPSTREAM.ext O0.2) (g := (mkF m 86 #[.val (.int u0), .val (.int u1), .val (.ref a_UPSTREAM), .val (.ref a_UPSTREAM), .val (.ref a_ENDPOINTS), .val (.int (2 : Int32)), .val (.int (2 : Int32)), .val (.int (0 : Int32)), .unset] [(.ref a_UPSTREAM)])) rfl (hb hby at_86)
      obtain ⟨cq9, kq9, q9a, q9b, q9c⟩ := isOf hZ e8 (E_a_ENDPOINTS.ext O0.2)
      obtain ⟨_, _, ⟨T9, L9, k9, n9⟩, -, X9, ⟨Lc9, hQ9, l9, y9, z9⟩, st9⟩ := X8.interfaceBack hx (xi := (⟨"java/util/List", "get", "(I)Ljava/lang/Object;"⟩ : MethodName)) (y := (⟨"java/util/ImmutableCollections$List12", "get", "(I)Ljava/lang/Object;"⟩ : MethodName)) hown (mvT hZ (hw _ (List.mem_of_getElem? (i := 31) rfl))) (mvT hZ (hw _ (List.mem_of_getElem? (i := 32) rfl))) (mvT hZ (hw _ (List.mem_of_getElem? (i := 33) rfl))) (mvT hZ (hw _ (List.mem_of_getElem? (i := 34) rfl))) (mvT hZ (hw _ (List.mem_of_getElem? (i := 35) rfl))) (mvT hZ (hw _ (List.mem_of_getElem? (i := 36) rfl))) (mvT hZ (hw _ (List.mem_of_getElem? (i := 37) rfl))) (mvT hZ (hw _ (List.mem_of_getElem? (i := 23) rfl))) (by decide) (backOf (W := 0) (rm4a l Z a0 hw [] a_ENDPOINTS a_LIST h0 n0 Z0 O0 (F_ENDPOINTS_e0.ext O0.2)) hZ (hw _ (List.mem_of_getElem? (i := 38) rfl)) (hw _ (List.mem_of_getElem? (i := 24) rfl)) (by decide) (by decide)) q9a q9b q9c (g := (mkF m 129 #[.val (.int u0), .val (.int u1), .val (.ref a_UPSTREAM), .val (.ref a_UPSTREAM), .val (.ref a_ENDPOINTS), .val (.int (2 : Int32)), .val (.int (2 : Int32)), .val (.int (0 : Int32)), .val (.int (0 : Int32))] [(.int (0 : Int32)), (.ref a_ENDPOINTS)])) rfl (by rw [hml]; rfl) (Steps.refl _) (argsL := [(.int (0 : Int32))]) (rest := []) (lenOf pd_4 rfl) rfl (by show 2 * 0 + _ ≤ _; exact Nat.le_of_eq rfl) (hb hby at_129) (fun _ _ => ⟨rfl, e8, (by decide : 0 + 0 ≤ _), (by decide : 0 + 0 ≤ _)⟩)
      dsimp only [Pt.U, Pt.locs, Pt.cells, Pt.slots] at X9 l9 y9 z9 st9 hQ9
      subst l9 y9 z9
      obtain ⟨rfl, N9q, e9⟩ := hQ9
      have N9 := Fr.app N7 N9q
      obtain ⟨T10, X10, e10, st10⟩ := getS2 X9 hx hZ hown (host := "") (Or.inl (hw _ (List.mem_of_getElem? (i := 42) rfl))) Via.refl e9 (S_LIST.ext O0.2) (g := (mkF m 134 #[.val (.int u0), .val (.int u1), .val (.ref a_UPSTREAM), .val (.ref a_UPSTREAM), .val (.ref a_ENDPOINTS), .val (.int (2 : Int32)), .val (.int (2 : Int32)), .val (.int (0 : Int32)), .val (.int (0 : Int32))] [(.ref a_LIST)])) rfl (hb hby at_134)
      obtain ⟨cq11, kq11, q11a, q11b, q11c⟩ := isOf hZ e10 (E_a_ENDPOINTS.ext O0.2)
      obtain ⟨_, _, ⟨T11, L11, k11, n11⟩, -, X11, ⟨Lc11, hQ11, l11, y11, z11⟩, st11⟩ := X10.interfaceBack hx (xi := (⟨"java/util/List", "get", "(I)Ljava/lang/Object;"⟩ : MethodName)) (y := (⟨"java/util/ImmutableCollections$List12", "get", "(I)Ljava/lang/Object;"⟩ : MethodName)) hown (mvT hZ (hw _ (List.mem_of_getElem? (i := 31) rfl))) (mvT hZ (hw _ (List.mem_of_getElem? (i := 32) rfl))) (mvT hZ (hw _ (List.mem_of_getElem? (i := 33) rfl))) (mvT hZ (hw _ (List.mem_of_getElem? (i := 34) rfl))) (mvT hZ (hw _ (List.mem_of_getElem? (i := 35) rfl))) (mvT hZ (hw _ (List.mem_of_getElem? (i := 36) rfl))) (mvT hZ (hw _ (List.mem_of_getElem? (i := 37) rfl))) (mvT hZ (hw _ (List.mem_of_getElem? (i := 23) rfl))) (by decide) (backOf (W := 0) (rm4b l Z a0 hw [] a_ENDPOINTS a_ITEM a_EMPTY h0 n0 Z0 O0 S_EMPTY (F_ENDPOINTS_e1.ext O0.2) ne_ITEM_EMPTY) hZ (hw _ (List.mem_of_getElem? (i := 38) rfl)) (hw _ (List.mem_of_getElem? (i := 24) rfl)) (by decide) (by decide)) q11a q11b q11c (g := (mkF m 143 #[.val (.int u0), .val (.int u1), .val (.ref a_UPSTREAM), .val (.ref a_UPSTREAM), .val (.ref a_ENDPOINTS), .val (.int (2 : Int32)), .val (.int (2 : Int32)), .val (.int (0 : Int32)), .val (.int (0 : Int32))] [(.int (1 : Int32)), (.ref a_ENDPOINTS)])) rfl (by rw [hml]; rfl) (Steps.refl _) (argsL := [(.int (1 : Int32))]) (rest := []) (lenOf pd_4 rfl) rfl (by show 2 * 0 + _ ≤ _; exact Nat.le_of_eq rfl) (hb hby at_143) (fun _ _ => ⟨rfl, e10, (by decide : 0 + 0 ≤ _), (by decide : 0 + 0 ≤ _)⟩)
      dsimp only [Pt.U, Pt.locs, Pt.cells, Pt.slots] at X11 l11 y11 z11 st11 hQ11
      subst l11 y11 z11
      obtain ⟨rfl, N11q, e11⟩ := hQ11
      have N11 := Fr.app N9 N11q
      obtain ⟨T12, X12, e12, st12⟩ := getS2 X11 hx hZ hown (host := "") (Or.inl (hw _ (List.mem_of_getElem? (i := 43) rfl))) Via.refl e11 (S_ITEM.ext O0.2) (g := (mkF m 148 #[.val (.int u0), .val (.int u1), .val (.ref a_UPSTREAM), .val (.ref a_UPSTREAM), .val (.ref a_ENDPOINTS), .val (.int (2 : Int32)), .val (.int (2 : Int32)), .val (.int (0 : Int32)), .val (.int (0 : Int32))] [(.ref a_ITEM)])) rfl (hb hby at_148)
      obtain ⟨fs, hr, hrun, hended, hW, hsame⟩ := X12.leave (v := some (.int (1 : Int32))) (fun h => by rw [Bd.returns] at h; cases h)
      refine ⟨_, _, pre0 _ ?_, hrun, hended, _, _, rfl, ?_, ⟨_, rfl⟩, hW, hsame.mono (by decide) (by decide)⟩
      · show Steps p.tables e below (s₁.setTop (mkF m 0 #[.val (.int u0), .val (.int u1), .unset, .unset, .unset, .unset, .unset, .unset, .unset] [])) _
        refine XS.iloadN X0.here hx rfl (hb hby at_0) rfl ?_
        show Steps p.tables e below (s₁.setTop (mkF m 1 #[.val (.int u0), .val (.int u1), .unset, .unset, .unset, .unset, .unset, .unset, .unset] [(.int u0)])) _
        refine st1 _ ?_
        show Steps p.tables e below (T1.setTop (mkF m 4 #[.val (.int u0), .val (.int u1), .unset, .unset, .unset, .unset, .unset, .unset, .unset] [(.ref a_UPSTREAM)])) _
        refine XS.astoreN X1.here hx rfl (hb hby at_4) rfl rfl (l' := #[.val (.int u0), .val (.int u1), .val (.ref a_UPSTREAM), .unset, .unset, .unset, .unset, .unset, .unset]) rfl ?_
        show Steps p.tables e below (T1.setTop (mkF m 5 #[.val (.int u0), .val (.int u1), .val (.ref a_UPSTREAM), .unset, .unset, .unset, .unset, .unset, .unset] [])) _
        refine XS.iloadN X1.here hx rfl (hb hby at_5) rfl ?_
        show Steps p.tables e below (T1.setTop (mkF m 6 #[.val (.int u0), .val (.int u1), .val (.ref a_UPSTREAM), .unset, .unset, .unset, .unset, .unset, .unset] [(.int u1)])) _
        refine st2 _ ?_
        show Steps p.tables e below (T2.setTop (mkF m 9 #[.val (.int u0), .val (.int u1), .val (.ref a_UPSTREAM), .unset, .unset, .unset, .unset, .unset, .unset] [(.ref a_UPSTREAM)])) _
        refine XS.astoreN X2.here hx rfl (hb hby at_9) rfl rfl (l' := #[.val (.int u0), .val (.int u1), .val (.ref a_UPSTREAM), .val (.ref a_UPSTREAM), .unset, .unset, .unset, .unset, .unset]) rfl ?_
        show Steps p.tables e below (T2.setTop (mkF m 10 #[.val (.int u0), .val (.int u1), .val (.ref a_UPSTREAM), .val (.ref a_UPSTREAM), .unset, .unset, .unset, .unset, .unset] [])) _
        refine XS.aloadN X2.here hx rfl (hb hby at_10) rfl rfl ?_
        show Steps p.tables e below (T2.setTop (mkF m 11 #[.val (.int u0), .val (.int u1), .val (.ref a_UPSTREAM), .val (.ref a_UPSTREAM), .unset, .unset, .unset, .unset, .unset] [(.ref a_UPSTREAM)])) _
        refine st3.trans ?_
        show Steps p.tables e below (T3.setTop (mkF m 14 #[.val (.int u0), .val (.int u1), .val (.ref a_UPSTREAM), .val (.ref a_UPSTREAM), .unset, .unset, .unset, .unset, .unset] [(.ref a_ENDPOINTS)])) _
        refine XS.astore X3.here hx rfl (hb hby at_14) rfl rfl (l' := #[.val (.int u0), .val (.int u1), .val (.ref a_UPSTREAM), .val (.ref a_UPSTREAM), .val (.ref a_ENDPOINTS), .unset, .unset, .unset, .unset]) rfl ?_
        show Steps p.tables e below (T3.setTop (mkF m 16 #[.val (.int u0), .val (.int u1), .val (.ref a_UPSTREAM), .val (.ref a_UPSTREAM), .val (.ref a_ENDPOINTS), .unset, .unset, .unset, .unset] [])) _
        refine XS.aload X3.here hx rfl (hb hby at_16) rfl rfl ?_
        show Steps p.tables e below (T3.setTop (mkF m 18 #[.val (.int u0), .val (.int u1), .val (.ref a_UPSTREAM), .val (.ref a_UPSTREAM), .val (.ref a_ENDPOINTS), .unset, .unset, .unset, .unset] [(.ref a_ENDPOINTS)])) _
        refine st4.trans ?_
        show Steps p.tables e below (T4.setTop (mkF m 23 #[.val (.int u0), .val (.int u1), .val (.ref a_UPSTREAM), .val (.ref a_UPSTREAM), .val (.ref a_ENDPOINTS), .unset, .unset, .unset, .unset] [(.int (2 : Int32))])) _
        refine XS.istore X4.here hx rfl (hb hby at_23) rfl (l' := #[.val (.int u0), .val (.int u1), .val (.ref a_UPSTREAM), .val (.ref a_UPSTREAM), .val (.ref a_ENDPOINTS), .val (.int (2 : Int32)), .unset, .unset, .unset]) rfl ?_
        show Steps p.tables e below (T4.setTop (mkF m 25 #[.val (.int u0), .val (.int u1), .val (.ref a_UPSTREAM), .val (.ref a_UPSTREAM), .val (.ref a_ENDPOINTS), .val (.int (2 : Int32)), .unset, .unset, .unset] [])) _
        refine XS.aloadN X4.here hx rfl (hb hby at_25) rfl rfl ?_
        show Steps p.tables e below (T4.setTop (mkF m 26 #[.val (.int u0), .val (.int u1), .val (.ref a_UPSTREAM), .val (.ref a_UPSTREAM), .val (.ref a_ENDPOINTS), .val (.int (2 : Int32)), .unset, .unset, .unset] [(.ref a_UPSTREAM)])) _
        refine st5 _ ?_
        show Steps p.tables e below (T5.setTop (mkF m 29 #[.val (.int u0), .val (.int u1), .val (.ref a_UPSTREAM), .val (.ref a_UPSTREAM), .val (.ref a_ENDPOINTS), .val (.int (2 : Int32)), .unset, .unset, .unset] [(.ref a_UPSTREAM), (.ref a_UPSTREAM)])) _
        refine Jvm.RoadKit.acmp (g := (mkF m 29 #[.val (.int u0), .val (.int u1), .val (.ref a_UPSTREAM), .val (.ref a_UPSTREAM), .val (.ref a_ENDPOINTS), .val (.int (2 : Int32)), .unset, .unset, .unset] [(.ref a_UPSTREAM), (.ref a_UPSTREAM)])) X5 hx rfl rfl rfl (pc0 := 29) (pc' := 32) (same := true) rfl (hb hby at_29) rfl (decide_eq_true rfl) (by decide) (by decide) ?_
        show Steps p.tables e below (T5.setTop (mkF m 32 #[.val (.int u0), .val (.int u1), .val (.ref a_UPSTREAM), .val (.ref a_UPSTREAM), .val (.ref a_ENDPOINTS), .val (.int (2 : Int32)), .unset, .unset, .unset] [])) _
        refine XS.iconst X5.here hx rfl (hb hby at_32) ?_
        show Steps p.tables e below (T5.setTop (mkF m 33 #[.val (.int u0), .val (.int u1), .val (.ref a_UPSTREAM), .val (.ref a_UPSTREAM), .val (.ref a_ENDPOINTS), .val (.int (2 : Int32)), .unset, .unset, .unset] [(.int (2 : Int32))])) _
        refine XS.goto X5.here hx rfl (pc0 := 33) (pc' := 37) rfl (hb hby at_33) (by decide) (by decide) ?_
        show Steps p.tables e below (T5.setTop (mkF m 37 #[.val (.int u0), .val (.int u1), .val (.ref a_UPSTREAM), .val (.ref a_UPSTREAM), .val (.ref a_ENDPOINTS), .val (.int (2 : Int32)), .unset, .unset, .unset] [(.int (2 : Int32))])) _
        refine XS.istore X5.here hx rfl (hb hby at_37) rfl (l' := #[.val (.int u0), .val (.int u1), .val (.ref a_UPSTREAM), .val (.ref a_UPSTREAM), .val (.ref a_ENDPOINTS), .val (.int (2 : Int32)), .val (.int (2 : Int32)), .unset, .unset]) rfl ?_
        show Steps p.tables e below (T5.setTop (mkF m 39 #[.val (.int u0), .val (.int u1), .val (.ref a_UPSTREAM), .val (.ref a_UPSTREAM), .val (.ref a_ENDPOINTS), .val (.int (2 : Int32)), .val (.int (2 : Int32)), .unset, .unset] [])) _
        refine XS.iload X5.here hx rfl (hb hby at_39) rfl ?_
        show Steps p.tables e below (T5.setTop (mkF m 41 #[.val (.int u0), .val (.int u1), .val (.ref a_UPSTREAM), .val (.ref a_UPSTREAM), .val (.ref a_ENDPOINTS), .val (.int (2 : Int32)), .val (.int (2 : Int32)), .unset, .unset] [(.int (2 : Int32))])) _
        refine XS.iload X5.here hx rfl (hb hby at_41) rfl ?_
        show Steps p.tables e below (T5.setTop (mkF m 43 #[.val (.int u0), .val (.int u1), .val (.ref a_UPSTREAM), .val (.ref a_UPSTREAM), .val (.ref a_ENDPOINTS), .val (.int (2 : Int32)), .val (.int (2 : Int32)), .unset, .unset] [(.int (2 : Int32)), (.int (2 : Int32))])) _
        refine XS.icmpYes X5.here hx rfl (pc0 := 43) (pc' := 48) rfl (hb hby at_43) rfl (teq (by decide)).1 (by decide) (by decide) ?_
        show Steps p.tables e below (T5.setTop (mkF m 48 #[.val (.int u0), .val (.int u1), .val (.ref a_UPSTREAM), .val (.ref a_UPSTREAM), .val (.ref a_ENDPOINTS), .val (.int (2 : Int32)), .val (.int (2 : Int32)), .unset, .unset] [])) _
        refine XS.aload X5.here hx rfl (hb hby at_48) rfl rfl ?_
        show Steps p.tables e below (T5.setTop (mkF m 50 #[.val (.int u0), .val (.int u1), .val (.ref a_UPSTREAM), .val (.ref a_UPSTREAM), .val (.ref a_ENDPOINTS), .val (.int (2 : Int32)), .val (.int (2 : Int32)), .unset, .unset] [(.ref a_ENDPOINTS)])) _
        refine XS.iconst X5.here hx rfl (hb hby at_50) ?_
        show Steps p.tables e below (T5.setTop (mkF m 51 #[.val (.int u0), .val (.int u1), .val (.ref a_UPSTREAM), .val (.ref a_UPSTREAM), .val (.ref a_ENDPOINTS), .val (.int (2 : Int32)), .val (.int (2 : Int32)), .unset, .unset] [(.int (0 : Int32)), (.ref a_ENDPOINTS)])) _
        refine st6.trans ?_
        show Steps p.tables e below (T6.setTop (mkF m 56 #[.val (.int u0), .val (.int u1), .val (.ref a_UPSTREAM), .val (.ref a_UPSTREAM), .val (.ref a_ENDPOINTS), .val (.int (2 : Int32)), .val (.int (2 : Int32)), .unset, .unset] [(.ref a_LIST)])) _
        refine XS.aloadN X6.here hx rfl (hb hby at_56) rfl rfl ?_
        show Steps p.tables e below (T6.setTop (mkF m 57 #[.val (.int u0), .val (.int u1), .val (.ref a_UPSTREAM), .val (.ref a_UPSTREAM), .val (.ref a_ENDPOINTS), .val (.int (2 : Int32)), .val (.int (2 : Int32)), .unset, .unset] [(.ref a_UPSTREAM), (.ref a_LIST)])) _
        refine Jvm.RoadKit.acmp (g := (mkF m 57 #[.val (.int u0), .val (.int u1), .val (.ref a_UPSTREAM), .val (.ref a_UPSTREAM), .val (.ref a_ENDPOINTS), .val (.int (2 : Int32)), .val (.int (2 : Int32)), .unset, .unset] [(.ref a_UPSTREAM), (.ref a_LIST)])) X6 hx rfl rfl rfl (pc0 := 57) (pc' := 60) (same := false) rfl (hb hby at_57) rfl (decide_eq_false fun q => (Ne.symm ne_UPSTREAM_LIST) (Value.ref.inj q)) (by decide) (by decide) ?_
        show Steps p.tables e below (T6.setTop (mkF m 60 #[.val (.int u0), .val (.int u1), .val (.ref a_UPSTREAM), .val (.ref a_UPSTREAM), .val (.ref a_ENDPOINTS), .val (.int (2 : Int32)), .val (.int (2 : Int32)), .unset, .unset] [])) _
        refine XS.iload X6.here hx rfl (hb hby at_60) rfl ?_
        show Steps p.tables e below (T6.setTop (mkF m 62 #[.val (.int u0), .val (.int u1), .val (.ref a_UPSTREAM), .val (.ref a_UPSTREAM), .val (.ref a_ENDPOINTS), .val (.int (2 : Int32)), .val (.int (2 : Int32)), .unset, .unset] [(.int (2 : Int32))])) _
        refine XS.iconst X6.here hx rfl (hb hby at_62) ?_
        show Steps p.tables e below (T6.setTop (mkF m 63 #[.val (.int u0), .val (.int u1), .val (.ref a_UPSTREAM), .val (.ref a_UPSTREAM), .val (.ref a_ENDPOINTS), .val (.int (2 : Int32)), .val (.int (2 : Int32)), .unset, .unset] [(.int (1 : Int32)), (.int (2 : Int32))])) _
        refine XS.icmpNo X6.here hx rfl (hb hby at_63) rfl (tlt (by decide)).2.2.2 ?_
        show Steps p.tables e below (T6.setTop (mkF m 66 #[.val (.int u0), .val (.int u1), .val (.ref a_UPSTREAM), .val (.ref a_UPSTREAM), .val (.ref a_ENDPOINTS), .val (.int (2 : Int32)), .val (.int (2 : Int32)), .unset, .unset] [])) _
        refine XS.aload X6.here hx rfl (hb hby at_66) rfl rfl ?_
        show Steps p.tables e below (T6.setTop (mkF m 68 #[.val (.int u0), .val (.int u1), .val (.ref a_UPSTREAM), .val (.ref a_UPSTREAM), .val (.ref a_ENDPOINTS), .val (.int (2 : Int32)), .val (.int (2 : Int32)), .unset, .unset] [(.ref a_ENDPOINTS)])) _
        refine XS.iconst X6.here hx rfl (hb hby at_68) ?_
        show Steps p.tables e below (T6.setTop (mkF m 69 #[.val (.int u0), .val (.int u1), .val (.ref a_UPSTREAM), .val (.ref a_UPSTREAM), .val (.ref a_ENDPOINTS), .val (.int (2 : Int32)), .val (.int (2 : Int32)), .unset, .unset] [(.int (1 : Int32)), (.ref a_ENDPOINTS)])) _
        refine st7.trans ?_
        show Steps p.tables e below (T7.setTop (mkF m 74 #[.val (.int u0), .val (.int u1), .val (.ref a_UPSTREAM), .val (.ref a_UPSTREAM), .val (.ref a_ENDPOINTS), .val (.int (2 : Int32)), .val (.int (2 : Int32)), .unset, .unset] [(.ref a_ITEM)])) _
        refine XS.aloadN X7.here hx rfl (hb hby at_74) rfl rfl ?_
        show Steps p.tables e below (T7.setTop (mkF m 75 #[.val (.int u0), .val (.int u1), .val (.ref a_UPSTREAM), .val (.ref a_UPSTREAM), .val (.ref a_ENDPOINTS), .val (.int (2 : Int32)), .val (.int (2 : Int32)), .unset, .unset] [(.ref a_UPSTREAM), (.ref a_ITEM)])) _
        refine Jvm.RoadKit.acmp (g := (mkF m 75 #[.val (.int u0), .val (.int u1), .val (.ref a_UPSTREAM), .val (.ref a_UPSTREAM), .val (.ref a_ENDPOINTS), .val (.int (2 : Int32)), .val (.int (2 : Int32)), .unset, .unset] [(.ref a_UPSTREAM), (.ref a_ITEM)])) X7 hx rfl rfl rfl (pc0 := 75) (pc' := 82) (same := false) rfl (hb hby at_75) rfl (decide_eq_false fun q => (Ne.symm ne_UPSTREAM_ITEM) (Value.ref.inj q)) (by decide) (by decide) ?_
        show Steps p.tables e below (T7.setTop (mkF m 82 #[.val (.int u0), .val (.int u1), .val (.ref a_UPSTREAM), .val (.ref a_UPSTREAM), .val (.ref a_ENDPOINTS), .val (.int (2 : Int32)), .val (.int (2 : Int32)), .unset, .unset] [])) _
        refine XS.iconst X7.here hx rfl (hb hby at_82) ?_
        show Steps p.tables e below (T7.setTop (mkF m 83 #[.val (.int u0), .val (.int u1), .val (.ref a_UPSTREAM), .val (.ref a_UPSTREAM), .val (.ref a_ENDPOINTS), .val (.int (2 : Int32)), .val (.int (2 : Int32)), .unset, .unset] [(.int (0 : Int32))])) _
        refine XS.istore X7.here hx rfl (hb hby at_83) rfl (l' := #[.val (.int u0), .val (.int u1), .val (.ref a_UPSTREAM), .val (.ref a_UPSTREAM), .val (.ref a_ENDPOINTS), .val (.int (2 : Int32)), .val (.int (2 : Int32)), .val (.int (0 : Int32)), .unset]) rfl ?_
        show Steps p.tables e below (T7.setTop (mkF m 85 #[.val (.int u0), .val (.int u1), .val (.ref a_UPSTREAM), .val (.ref a_UPSTREAM), .val (.ref a_ENDPOINTS), .val (.int (2 : Int32)), .val (.int (2 : Int32)), .val (.int (0 : Int32)), .unset] [])) _
        refine XS.aloadN X7.here hx rfl (hb hby at_85) rfl rfl ?_
        show Steps p.tables e below (T7.setTop (mkF m 86 #[.val (.int u0), .val (.int u1), .val (.ref a_UPSTREAM), .val (.ref a_UPSTREAM), .val (.ref a_ENDPOINTS), .val (.int (2 : Int32)), .val (.int (2 : Int32)), .val (.int (0 : Int32)), .unset] [(.ref a_UPSTREAM)])) _
        refine st8 _ ?_
        show Steps p.tables e below (T8.setTop (mkF m 89 #[.val (.int u0), .val (.int u1), .val (.ref a_UPSTREAM), .val (.ref a_UPSTREAM), .val (.ref a_ENDPOINTS), .val (.int (2 : Int32)), .val (.int (2 : Int32)), .val (.int (0 : Int32)), .unset] [(.ref a_UPSTREAM), (.ref a_UPSTREAM)])) _
        refine Jvm.RoadKit.acmp (g := (mkF m 89 #[.val (.int u0), .val (.int u1), .val (.ref a_UPSTREAM), .val (.ref a_UPSTREAM), .val (.ref a_ENDPOINTS), .val (.int (2 : Int32)), .val (.int (2 : Int32)), .val (.int (0 : Int32)), .unset] [(.ref a_UPSTREAM), (.ref a_UPSTREAM)])) X8 hx rfl rfl rfl (pc0 := 89) (pc' := 108) (same := true) rfl (hb hby at_89) rfl (decide_eq_true rfl) (by decide) (by decide) ?_
        show Steps p.tables e below (T8.setTop (mkF m 108 #[.val (.int u0), .val (.int u1), .val (.ref a_UPSTREAM), .val (.ref a_UPSTREAM), .val (.ref a_ENDPOINTS), .val (.int (2 : Int32)), .val (.int (2 : Int32)), .val (.int (0 : Int32)), .unset] [])) _
        refine XS.iconst X8.here hx rfl (hb hby at_108) ?_
        show Steps p.tables e below (T8.setTop (mkF m 109 #[.val (.int u0), .val (.int u1), .val (.ref a_UPSTREAM), .val (.ref a_UPSTREAM), .val (.ref a_ENDPOINTS), .val (.int (2 : Int32)), .val (.int (2 : Int32)), .val (.int (0 : Int32)), .unset] [(.int (0 : Int32))])) _
        refine XS.istore X8.here hx rfl (hb hby at_109) rfl (l' := #[.val (.int u0), .val (.int u1), .val (.ref a_UPSTREAM), .val (.ref a_UPSTREAM), .val (.ref a_ENDPOINTS), .val (.int (2 : Int32)), .val (.int (2 : Int32)), .val (.int (0 : Int32)), .val (.int (0 : Int32))]) rfl ?_
        show Steps p.tables e below (T8.setTop (mkF m 111 #[.val (.int u0), .val (.int u1), .val (.ref a_UPSTREAM), .val (.ref a_UPSTREAM), .val (.ref a_ENDPOINTS), .val (.int (2 : Int32)), .val (.int (2 : Int32)), .val (.int (0 : Int32)), .val (.int (0 : Int32))] [])) _
        refine XS.iload X8.here hx rfl (hb hby at_111) rfl ?_
        show Steps p.tables e below (T8.setTop (mkF m 113 #[.val (.int u0), .val (.int u1), .val (.ref a_UPSTREAM), .val (.ref a_UPSTREAM), .val (.ref a_ENDPOINTS), .val (.int (2 : Int32)), .val (.int (2 : Int32)), .val (.int (0 : Int32)), .val (.int (0 : Int32))] [(.int (0 : Int32))])) _
        refine XS.iload X8.here hx rfl (hb hby at_113) rfl ?_
        show Steps p.tables e below (T8.setTop (mkF m 115 #[.val (.int u0), .val (.int u1), .val (.ref a_UPSTREAM), .val (.ref a_UPSTREAM), .val (.ref a_ENDPOINTS), .val (.int (2 : Int32)), .val (.int (2 : Int32)), .val (.int (0 : Int32)), .val (.int (0 : Int32))] [(.int (0 : Int32)), (.int (0 : Int32))])) _
        refine XS.icmpYes X8.here hx rfl (pc0 := 115) (pc' := 120) rfl (hb hby at_115) rfl (teq (by decide)).1 (by decide) (by decide) ?_
        show Steps p.tables e below (T8.setTop (mkF m 120 #[.val (.int u0), .val (.int u1), .val (.ref a_UPSTREAM), .val (.ref a_UPSTREAM), .val (.ref a_ENDPOINTS), .val (.int (2 : Int32)), .val (.int (2 : Int32)), .val (.int (0 : Int32)), .val (.int (0 : Int32))] [])) _
        refine XS.iload X8.here hx rfl (hb hby at_120) rfl ?_
        show Steps p.tables e below (T8.setTop (mkF m 122 #[.val (.int u0), .val (.int u1), .val (.ref a_UPSTREAM), .val (.ref a_UPSTREAM), .val (.ref a_ENDPOINTS), .val (.int (2 : Int32)), .val (.int (2 : Int32)), .val (.int (0 : Int32)), .val (.int (0 : Int32))] [(.int (2 : Int32))])) _
        refine XS.iconst X8.here hx rfl (hb hby at_122) ?_
        show Steps p.tables e below (T8.setTop (mkF m 123 #[.val (.int u0), .val (.int u1), .val (.ref a_UPSTREAM), .val (.ref a_UPSTREAM), .val (.ref a_ENDPOINTS), .val (.int (2 : Int32)), .val (.int (2 : Int32)), .val (.int (0 : Int32)), .val (.int (0 : Int32))] [(.int (2 : Int32)), (.int (2 : Int32))])) _
        refine XS.icmpNo X8.here hx rfl (hb hby at_123) rfl (teq (by decide)).2 ?_
        show Steps p.tables e below (T8.setTop (mkF m 126 #[.val (.int u0), .val (.int u1), .val (.ref a_UPSTREAM), .val (.ref a_UPSTREAM), .val (.ref a_ENDPOINTS), .val (.int (2 : Int32)), .val (.int (2 : Int32)), .val (.int (0 : Int32)), .val (.int (0 : Int32))] [])) _
        refine XS.aload X8.here hx rfl (hb hby at_126) rfl rfl ?_
        show Steps p.tables e below (T8.setTop (mkF m 128 #[.val (.int u0), .val (.int u1), .val (.ref a_UPSTREAM), .val (.ref a_UPSTREAM), .val (.ref a_ENDPOINTS), .val (.int (2 : Int32)), .val (.int (2 : Int32)), .val (.int (0 : Int32)), .val (.int (0 : Int32))] [(.ref a_ENDPOINTS)])) _
        refine XS.iconst X8.here hx rfl (hb hby at_128) ?_
        show Steps p.tables e below (T8.setTop (mkF m 129 #[.val (.int u0), .val (.int u1), .val (.ref a_UPSTREAM), .val (.ref a_UPSTREAM), .val (.ref a_ENDPOINTS), .val (.int (2 : Int32)), .val (.int (2 : Int32)), .val (.int (0 : Int32)), .val (.int (0 : Int32))] [(.int (0 : Int32)), (.ref a_ENDPOINTS)])) _
        refine st9.trans ?_
        show Steps p.tables e below (T9.setTop (mkF m 134 #[.val (.int u0), .val (.int u1), .val (.ref a_UPSTREAM), .val (.ref a_UPSTREAM), .val (.ref a_ENDPOINTS), .val (.int (2 : Int32)), .val (.int (2 : Int32)), .val (.int (0 : Int32)), .val (.int (0 : Int32))] [(.ref a_LIST)])) _
        refine st10 _ ?_
        show Steps p.tables e below (T10.setTop (mkF m 137 #[.val (.int u0), .val (.int u1), .val (.ref a_UPSTREAM), .val (.ref a_UPSTREAM), .val (.ref a_ENDPOINTS), .val (.int (2 : Int32)), .val (.int (2 : Int32)), .val (.int (0 : Int32)), .val (.int (0 : Int32))] [(.ref a_LIST), (.ref a_LIST)])) _
        refine Jvm.RoadKit.acmp (g := (mkF m 137 #[.val (.int u0), .val (.int u1), .val (.ref a_UPSTREAM), .val (.ref a_UPSTREAM), .val (.ref a_ENDPOINTS), .val (.int (2 : Int32)), .val (.int (2 : Int32)), .val (.int (0 : Int32)), .val (.int (0 : Int32))] [(.ref a_LIST), (.ref a_LIST)])) X10 hx rfl rfl rfl (pc0 := 137) (pc' := 140) (same := true) rfl (hb hby at_137) rfl (decide_eq_true rfl) (by decide) (by decide) ?_
        show Steps p.tables e below (T10.setTop (mkF m 140 #[.val (.int u0), .val (.int u1), .val (.ref a_UPSTREAM), .val (.ref a_UPSTREAM), .val (.ref a_ENDPOINTS), .val (.int (2 : Int32)), .val (.int (2 : Int32)), .val (.int (0 : Int32)), .val (.int (0 : Int32))] [])) _
        refine XS.aload X10.here hx rfl (hb hby at_140) rfl rfl ?_
        show Steps p.tables e below (T10.setTop (mkF m 142 #[.val (.int u0), .val (.int u1), .val (.ref a_UPSTREAM), .val (.ref a_UPSTREAM), .val (.ref a_ENDPOINTS), .val (.int (2 : Int32)), .val (.int (2 : Int32)), .val (.int (0 : Int32)), .val (.int (0 : Int32))] [(.ref a_ENDPOINTS)])) _
        refine XS.iconst X10.here hx rfl (hb hby at_142) ?_
        show Steps p.tables e below (T10.setTop (mkF m 143 #[.val (.int u0), .val (.int u1), .val (.ref a_UPSTREAM), .val (.ref a_UPSTREAM), .val (.ref a_ENDPOINTS), .val (.int (2 : Int32)), .val (.int (2 : Int32)), .val (.int (0 : Int32)), .val (.int (0 : Int32))] [(.int (1 : Int32)), (.ref a_ENDPOINTS)])) _
        refine st11.trans ?_
        show Steps p.tables e below (T11.setTop (mkF m 148 #[.val (.int u0), .val (.int u1), .val (.ref a_UPSTREAM), .val (.ref a_UPSTREAM), .val (.ref a_ENDPOINTS), .val (.int (2 : Int32)), .val (.int (2 : Int32)), .val (.int (0 : Int32)), .val (.int (0 : Int32))] [(.ref a_ITEM)])) _
        refine st12 _ ?_
        show Steps p.tables e below (T12.setTop (mkF m 151 #[.val (.int u0), .val (.int u1), .val (.ref a_UPSTREAM), .val (.ref a_UPSTREAM), .val (.ref a_ENDPOINTS), .val (.int (2 : Int32)), .val (.int (2 : Int32)), .val (.int (0 : Int32)), .val (.int (0 : Int32))] [(.ref a_ITEM), (.ref a_ITEM)])) _
        refine Jvm.RoadKit.acmp (g := (mkF m 151 #[.val (.int u0), .val (.int u1), .val (.ref a_UPSTREAM), .val (.ref a_UPSTREAM), .val (.ref a_ENDPOINTS), .val (.int (2 : Int32)), .val (.int (2 : Int32)), .val (.int (0 : Int32)), .val (.int (0 : Int32))] [(.ref a_ITEM), (.ref a_ITEM)])) X12 hx rfl rfl rfl (pc0 := 151) (pc' := 156) (same := true) rfl (hb hby at_151) rfl (decide_eq_true rfl) (by decide) (by decide) ?_
        show Steps p.tables e below (T12.setTop (mkF m 156 #[.val (.int u0), .val (.int u1), .val (.ref a_UPSTREAM), .val (.ref a_UPSTREAM), .val (.ref a_ENDPOINTS), .val (.int (2 : Int32)), .val (.int (2 : Int32)), .val (.int (0 : Int32)), .val (.int (0 : Int32))] [])) _
        refine XS.iconst X12.here hx rfl (hb hby at_156) ?_
        show Steps p.tables e below (T12.setTop (mkF m 157 #[.val (.int u0), .val (.int u1), .val (.ref a_UPSTREAM), .val (.ref a_UPSTREAM), .val (.ref a_ENDPOINTS), .val (.int (2 : Int32)), .val (.int (2 : Int32)), .val (.int (0 : Int32)), .val (.int (0 : Int32))] [(.int (1 : Int32))])) _
        exact retN X12 hx (t := .boolean) Bd.returns (by simp) (hb hby at_157) hr
      · show Q0 Z u0 u1 a_UPSTREAM a_LIST a_ITEM a_ENDPOINTS a_EMPTY h0 n0 _ T12.heap _
        rw [e12]
        exact ⟨rfl, N11⟩
    · obtain ⟨_, _, ⟨T13, L13, k13, n13⟩, -, X13, ⟨Lc13, hQ13, l13, y13, z13⟩, st13⟩ := Jvm.LawKit.callS X0 hx (y := (⟨"com/example/backfill/backfill/engine/LaneEndpointsPinLaw", "pick", "(I)Lcom/example/backfill/backfill/engine/Lane;"⟩ : MethodName)) hown (mvT hZ (hw _ (List.mem_of_getElem? (i := 0) rfl))) (mvT hZ (hw _ (List.mem_of_getElem? (i := 1) rfl))) (mvT hZ (hw _ (List.mem_of_getElem? (i := 2) rfl))) (mvT hZ (hw _ (List.mem_of_getElem? (i := 3) rfl))) (by decide) (backOf (W := 0) (rm1 l Z a0 hw [] u0 a_UPSTREAM a_LIST a_ITEM h0 n0 Z0 O0 S_UPSTREAM S_LIST S_ITEM) hZ (hw _ (List.mem_of_getElem? (i := 3) rfl)) (hw _ (List.mem_of_getElem? (i := 2) rfl)) (by decide) (by decide)) (g := (mkF m 1 #[.val (.int u0), .val (.int u1), .unset, .unset, .unset, .unset, .unset, .unset, .unset] [(.int u0)])) rfl (by rw [hml]; rfl) (argsL := [(.int u0)]) (rest := []) (lenOf pd_3 rfl) rfl (by show 2 * 0 + _ ≤ _; exact Nat.le_of_eq rfl) (hb hby at_1) (fun _ _ => ⟨rfl, e0, (by decide : 0 + 0 ≤ _), (by decide : 0 + 0 ≤ _)⟩)
      dsimp only [Pt.U, Pt.locs, Pt.cells, Pt.slots] at X13 l13 y13 z13 st13 hQ13
      subst l13 y13 z13
      obtain ⟨hv13, N13q, e13⟩ := hQ13
      rw [hp0] at hv13
      subst hv13
      have N13 := Fr.app N0 N13q
      obtain ⟨_, _, ⟨T14, L14, k14, n14⟩, -, X14, ⟨Lc14, hQ14, l14, y14, z14⟩, st14⟩ := Jvm.LawKit.callS X13 hx (y := (⟨"com/example/backfill/backfill/engine/LaneEndpointsPinLaw", "pick", "(I)Lcom/example/backfill/backfill/engine/Lane;"⟩ : MethodName)) hown (mvT hZ (hw _ (List.mem_of_getElem? (i := 0) rfl))) (mvT hZ (hw _ (List.mem_of_getElem? (i := 1) rfl))) (mvT hZ (hw _ (List.mem_of_getElem? (i := 2) rfl))) (mvT hZ (hw _ (List.mem_of_getElem? (i := 3) rfl))) (by decide) (backOf (W := 0) (rm1 l Z a0 hw [] u1 a_UPSTREAM a_LIST a_ITEM h0 n0 Z0 O0 S_UPSTREAM S_LIST S_ITEM) hZ (hw _ (List.mem_of_getElem? (i := 3) rfl)) (hw _ (List.mem_of_getElem? (i := 2) rfl)) (by decide) (by decide)) (g := (mkF m 6 #[.val (.int u0), .val (.int u1), .val (.ref a_UPSTREAM), .unset, .unset, .unset, .unset, .unset, .unset] [(.int u1)])) rfl (by rw [hml]; rfl) (argsL := [(.int u1)]) (rest := []) (lenOf pd_3 rfl) rfl (by show 2 * 0 + _ ≤ _; exact Nat.le_of_eq rfl) (hb hby at_6) (fun _ _ => ⟨rfl, e13, (by decide : 0 + 0 ≤ _), (by decide : 0 + 0 ≤ _)⟩)
      dsimp only [Pt.U, Pt.locs, Pt.cells, Pt.slots] at X14 l14 y14 z14 st14 hQ14
      subst l14 y14 z14
      obtain ⟨hv14, N14q, e14⟩ := hQ14
      rw [hp1] at hv14
      subst hv14
      have N14 := Fr.app N13 N14q
      obtain ⟨cq15, kq15, q15a, q15b, q15c⟩ := isOf hZ e14 (E_a_UPSTREAM.ext O0.2)
      obtain ⟨_, _, ⟨T15, L15, k15, n15⟩, -, X15, ⟨Lc15, hQ15, l15, y15, z15⟩, st15⟩ := X14.virtualBack hx (y := (⟨"com/example/backfill/backfill/engine/Lane", "endpoints", "()Ljava/util/List;"⟩ : MethodName)) (z := (⟨"com/example/backfill/backfill/engine/Lane", "endpoints", "()Ljava/util/List;"⟩ : MethodName)) hown (mvT hZ (hw _ (List.mem_of_getElem? (i := 8) rfl))) (mvT hZ (hw _ (List.mem_of_getElem? (i := 9) rfl))) (notFace_of_selects (args := #[]) (mvT hZ (hw _ (List.mem_of_getElem? (i := 11) rfl)))) (mvT hZ (hw _ (List.mem_of_getElem? (i := 11) rfl))) (mvT hZ (hw _ (List.mem_of_getElem? (i := 10) rfl))) (by decide) (backOf (W := 0) (rm2U l Z a0 hw [] a_UPSTREAM a_ENDPOINTS h0 n0 Z0 O0 S_UPSTREAM S_ENDPOINTS) hZ (hw _ (List.mem_of_getElem? (i := 12) rfl)) (hw _ (List.mem_of_getElem? (i := 6) rfl)) (by decide) (by decide)) q15a q15c (g := (mkF m 11 #[.val (.int u0), .val (.int u1), .val (.ref a_UPSTREAM), .val (.ref a_LIST), .unset, .unset, .unset, .unset, .unset] [(.ref a_UPSTREAM)])) rfl (by rw [hml]; rfl) (Steps.refl _) (argsL := []) (rest := []) (lenOf pd_1 rfl) rfl (by show 2 * 0 + _ ≤ _; exact Nat.le_of_eq rfl) (hb hby at_11) (fun _ _ => ⟨rfl, e14, (by decide : 0 + 0 ≤ _), (by decide : 0 + 0 ≤ _)⟩)
      dsimp only [Pt.U, Pt.locs, Pt.cells, Pt.slots] at X15 l15 y15 z15 st15 hQ15
      subst l15 y15 z15
      obtain ⟨rfl, N15q, e15⟩ := hQ15
      have N15 := Fr.app N14 N15q
      obtain ⟨cq16, kq16, q16a, q16b, q16c⟩ := isOf hZ e15 (E_a_ENDPOINTS.ext O0.2)
      obtain ⟨_, _, ⟨T16, L16, k16, n16⟩, -, X16, ⟨Lc16, hQ16, l16, y16, z16⟩, st16⟩ := X15.interfaceBack hx (xi := (⟨"java/util/List", "size", "()I"⟩ : MethodName)) (y := (⟨"java/util/ImmutableCollections$List12", "size", "()I"⟩ : MethodName)) hown (mvT hZ (hw _ (List.mem_of_getElem? (i := 16) rfl))) (mvT hZ (hw _ (List.mem_of_getElem? (i := 17) rfl))) (mvT hZ (hw _ (List.mem_of_getElem? (i := 18) rfl))) (mvT hZ (hw _ (List.mem_of_getElem? (i := 19) rfl))) (mvT hZ (hw _ (List.mem_of_getElem? (i := 20) rfl))) (mvT hZ (hw _ (List.mem_of_getElem? (i := 21) rfl))) (mvT hZ (hw _ (List.mem_of_getElem? (i := 22) rfl))) (mvT hZ (hw _ (List.mem_of_getElem? (i := 23) rfl))) (by decide) (backOf (W := 0) (rm3 l Z a0 hw [] a_ENDPOINTS a_ITEM a_EMPTY h0 n0 Z0 O0 S_EMPTY (F_ENDPOINTS_e1.ext O0.2)) hZ (hw _ (List.mem_of_getElem? (i := 25) rfl)) (hw _ (List.mem_of_getElem? (i := 24) rfl)) (by decide) (by decide)) q16a q16b q16c (g := (mkF m 18 #[.val (.int u0), .val (.int u1), .val (.ref a_UPSTREAM), .val (.ref a_LIST), .val (.ref a_ENDPOINTS), .unset, .unset, .unset, .unset] [(.ref a_ENDPOINTS)])) rfl (by rw [hml]; rfl) (Steps.refl _) (argsL := []) (rest := []) (lenOf pd_0 rfl) rfl (by show 2 * 0 + _ ≤ _; exact Nat.le_of_eq rfl) (hb hby at_18) (fun _ _ => ⟨rfl, e15, (by decide : 0 + 0 ≤ _), (by decide : 0 + 0 ≤ _)⟩)
      dsimp only [Pt.U, Pt.locs, Pt.cells, Pt.slots] at X16 l16 y16 z16 st16 hQ16
      subst l16 y16 z16
      obtain ⟨hv16, N16q, e16⟩ := hQ16
      rw [show sz12 a_ITEM a_EMPTY = (2 : Int32) from by simp [sz12, ne_ITEM_EMPTY]] at hv16
      subst hv16
      have N16 := Fr.app N15 N16q
      obtain ⟨T17, X17, e17, st17⟩ := getS2 X16 hx hZ hown (host := "") (Or.inl (hw _ (List.mem_of_getElem? (i := 5) rfl))) Via.refl e16 (S_UPSTREAM.ext O0.2) (g := (mkF m 26 #[.val (.int u0), .val (.int u1), .val (.ref a_UPSTREAM), .val (.ref a_LIST), .val (.ref a_ENDPOINTS), .val (.int (2 : Int32)), .unset, .unset, .unset] [(.ref a_UPSTREAM)])) rfl (hb hby at_26)
      obtain ⟨cq18, kq18, q18a, q18b, q18c⟩ := isOf hZ e17 (E_a_ENDPOINTS.ext O0.2)
      obtain ⟨_, _, ⟨T18, L18, k18, n18⟩, -, X18, ⟨Lc18, hQ18, l18, y18, z18⟩, st18⟩ := X17.interfaceBack hx (xi := (⟨"java/util/List", "get", "(I)Ljava/lang/Object;"⟩ : MethodName)) (y := (⟨"java/util/ImmutableCollections$List12", "get", "(I)Ljava/lang/Object;"⟩ : MethodName)) hown (mvT hZ (hw _ (List.mem_of_getElem? (i := 31) rfl))) (mvT hZ (hw _ (List.mem_of_getElem? (i := 32) rfl))) (mvT hZ (hw _ (List.mem_of_getElem? (i := 33) rfl))) (mvT hZ (hw _ (List.mem_of_getElem? (i := 34) rfl))) (mvT hZ (hw _ (List.mem_of_getElem? (i := 35) rfl))) (mvT hZ (hw _ (List.mem_of_getElem? (i := 36) rfl))) (mvT hZ (hw _ (List.mem_of_getElem? (i := 37) rfl))) (mvT hZ (hw _ (List.mem_of_getElem? (i := 23) rfl))) (by decide) (backOf (W := 0) (rm4a l Z a0 hw [] a_ENDPOINTS a_LIST h0 n0 Z0 O0 (F_ENDPOINTS_e0.ext O0.2)) hZ (hw _ (List.mem_of_getElem? (i := 38) rfl)) (hw _ (List.mem_of_getElem? (i := 24) rfl)) (by decide) (by decide)) q18a q18b q18c (g := (mkF m 51 #[.val (.int u0), .val (.int u1), .val (.ref a_UPSTREAM), .val (.ref a_LIST), .val (.ref a_ENDPOINTS), .val (.int (2 : Int32)), .val (.int (2 : Int32)), .unset, .unset] [(.int (0 : Int32)), (.ref a_ENDPOINTS)])) rfl (by rw [hml]; rfl) (Steps.refl _) (argsL := [(.int (0 : Int32))]) (rest := []) (lenOf pd_4 rfl) rfl (by show 2 * 0 + _ ≤ _; exact Nat.le_of_eq rfl) (hb hby at_51) (fun _ _ => ⟨rfl, e17, (by decide : 0 + 0 ≤ _), (by decide : 0 + 0 ≤ _)⟩)
      dsimp only [Pt.U, Pt.locs, Pt.cells, Pt.slots] at X18 l18 y18 z18 st18 hQ18
      subst l18 y18 z18
      obtain ⟨rfl, N18q, e18⟩ := hQ18
      have N18 := Fr.app N16 N18q
      obtain ⟨T19, X19, e19, st19⟩ := getS2 X18 hx hZ hown (host := "") (Or.inl (hw _ (List.mem_of_getElem? (i := 5) rfl))) Via.refl e18 (S_UPSTREAM.ext O0.2) (g := (mkF m 86 #[.val (.int u0), .val (.int u1), .val (.ref a_UPSTREAM), .val (.ref a_LIST), .val (.ref a_ENDPOINTS), .val (.int (2 : Int32)), .val (.int (2 : Int32)), .val (.int (1 : Int32)), .unset] [(.ref a_LIST)])) rfl (hb hby at_86)
      obtain ⟨T20, X20, e20, st20⟩ := getS2 X19 hx hZ hown (host := "") (Or.inl (hw _ (List.mem_of_getElem? (i := 5) rfl))) Via.refl e19 (S_UPSTREAM.ext O0.2) (g := (mkF m 93 #[.val (.int u0), .val (.int u1), .val (.ref a_UPSTREAM), .val (.ref a_LIST), .val (.ref a_ENDPOINTS), .val (.int (2 : Int32)), .val (.int (2 : Int32)), .val (.int (1 : Int32)), .unset] [(.ref a_UPSTREAM)])) rfl (hb hby at_93)
      obtain ⟨cq21, kq21, q21a, q21b, q21c⟩ := isOf hZ e20 (E_a_ENDPOINTS.ext O0.2)
      obtain ⟨_, _, ⟨T21, L21, k21, n21⟩, -, X21, ⟨Lc21, hQ21, l21, y21, z21⟩, st21⟩ := X20.interfaceBack hx (xi := (⟨"java/util/List", "get", "(I)Ljava/lang/Object;"⟩ : MethodName)) (y := (⟨"java/util/ImmutableCollections$List12", "get", "(I)Ljava/lang/Object;"⟩ : MethodName)) hown (mvT hZ (hw _ (List.mem_of_getElem? (i := 31) rfl))) (mvT hZ (hw _ (List.mem_of_getElem? (i := 32) rfl))) (mvT hZ (hw _ (List.mem_of_getElem? (i := 33) rfl))) (mvT hZ (hw _ (List.mem_of_getElem? (i := 34) rfl))) (mvT hZ (hw _ (List.mem_of_getElem? (i := 35) rfl))) (mvT hZ (hw _ (List.mem_of_getElem? (i := 36) rfl))) (mvT hZ (hw _ (List.mem_of_getElem? (i := 37) rfl))) (mvT hZ (hw _ (List.mem_of_getElem? (i := 23) rfl))) (by decide) (backOf (W := 0) (rm4a l Z a0 hw [] a_ENDPOINTS a_LIST h0 n0 Z0 O0 (F_ENDPOINTS_e0.ext O0.2)) hZ (hw _ (List.mem_of_getElem? (i := 38) rfl)) (hw _ (List.mem_of_getElem? (i := 24) rfl)) (by decide) (by decide)) q21a q21b q21c (g := (mkF m 129 #[.val (.int u0), .val (.int u1), .val (.ref a_UPSTREAM), .val (.ref a_LIST), .val (.ref a_ENDPOINTS), .val (.int (2 : Int32)), .val (.int (2 : Int32)), .val (.int (1 : Int32)), .val (.int (1 : Int32))] [(.int (0 : Int32)), (.ref a_ENDPOINTS)])) rfl (by rw [hml]; rfl) (Steps.refl _) (argsL := [(.int (0 : Int32))]) (rest := []) (lenOf pd_4 rfl) rfl (by show 2 * 0 + _ ≤ _; exact Nat.le_of_eq rfl) (hb hby at_129) (fun _ _ => ⟨rfl, e20, (by decide : 0 + 0 ≤ _), (by decide : 0 + 0 ≤ _)⟩)
      dsimp only [Pt.U, Pt.locs, Pt.cells, Pt.slots] at X21 l21 y21 z21 st21 hQ21
      subst l21 y21 z21
      obtain ⟨rfl, N21q, e21⟩ := hQ21
      have N21 := Fr.app N18 N21q
      obtain ⟨T22, X22, e22, st22⟩ := getS2 X21 hx hZ hown (host := "") (Or.inl (hw _ (List.mem_of_getElem? (i := 42) rfl))) Via.refl e21 (S_LIST.ext O0.2) (g := (mkF m 134 #[.val (.int u0), .val (.int u1), .val (.ref a_UPSTREAM), .val (.ref a_LIST), .val (.ref a_ENDPOINTS), .val (.int (2 : Int32)), .val (.int (2 : Int32)), .val (.int (1 : Int32)), .val (.int (1 : Int32))] [(.ref a_LIST)])) rfl (hb hby at_134)
      obtain ⟨cq23, kq23, q23a, q23b, q23c⟩ := isOf hZ e22 (E_a_ENDPOINTS.ext O0.2)
      obtain ⟨_, _, ⟨T23, L23, k23, n23⟩, -, X23, ⟨Lc23, hQ23, l23, y23, z23⟩, st23⟩ := X22.interfaceBack hx (xi := (⟨"java/util/List", "get", "(I)Ljava/lang/Object;"⟩ : MethodName)) (y := (⟨"java/util/ImmutableCollections$List12", "get", "(I)Ljava/lang/Object;"⟩ : MethodName)) hown (mvT hZ (hw _ (List.mem_of_getElem? (i := 31) rfl))) (mvT hZ (hw _ (List.mem_of_getElem? (i := 32) rfl))) (mvT hZ (hw _ (List.mem_of_getElem? (i := 33) rfl))) (mvT hZ (hw _ (List.mem_of_getElem? (i := 34) rfl))) (mvT hZ (hw _ (List.mem_of_getElem? (i := 35) rfl))) (mvT hZ (hw _ (List.mem_of_getElem? (i := 36) rfl))) (mvT hZ (hw _ (List.mem_of_getElem? (i := 37) rfl))) (mvT hZ (hw _ (List.mem_of_getElem? (i := 23) rfl))) (by decide) (backOf (W := 0) (rm4b l Z a0 hw [] a_ENDPOINTS a_ITEM a_EMPTY h0 n0 Z0 O0 S_EMPTY (F_ENDPOINTS_e1.ext O0.2) ne_ITEM_EMPTY) hZ (hw _ (List.mem_of_getElem? (i := 38) rfl)) (hw _ (List.mem_of_getElem? (i := 24) rfl)) (by decide) (by decide)) q23a q23b q23c (g := (mkF m 143 #[.val (.int u0), .val (.int u1), .val (.ref a_UPSTREAM), .val (.ref a_LIST), .val (.ref a_ENDPOINTS), .val (.int (2 : Int32)), .val (.int (2 : Int32)), .val (.int (1 : Int32)), .val (.int (1 : Int32))] [(.int (1 : Int32)), (.ref a_ENDPOINTS)])) rfl (by rw [hml]; rfl) (Steps.refl _) (argsL := [(.int (1 : Int32))]) (rest := []) (lenOf pd_4 rfl) rfl (by show 2 * 0 + _ ≤ _; exact Nat.le_of_eq rfl) (hb hby at_143) (fun _ _ => ⟨rfl, e22, (by decide : 0 + 0 ≤ _), (by decide : 0 + 0 ≤ _)⟩)
      dsimp only [Pt.U, Pt.locs, Pt.cells, Pt.slots] at X23 l23 y23 z23 st23 hQ23
      subst l23 y23 z23
      obtain ⟨rfl, N23q, e23⟩ := hQ23
      have N23 := Fr.app N21 N23q
      obtain ⟨T24, X24, e24, st24⟩ := getS2 X23 hx hZ hown (host := "") (Or.inl (hw _ (List.mem_of_getElem? (i := 43) rfl))) Via.refl e23 (S_ITEM.ext O0.2) (g := (mkF m 148 #[.val (.int u0), .val (.int u1), .val (.ref a_UPSTREAM), .val (.ref a_LIST), .val (.ref a_ENDPOINTS), .val (.int (2 : Int32)), .val (.int (2 : Int32)), .val (.int (1 : Int32)), .val (.int (1 : Int32))] [(.ref a_ITEM)])) rfl (hb hby at_148)
      obtain ⟨fs, hr, hrun, hended, hW, hsame⟩ := X24.leave (v := some (.int (1 : Int32))) (fun h => by rw [Bd.returns] at h; cases h)
      refine ⟨_, _, pre0 _ ?_, hrun, hended, _, _, rfl, ?_, ⟨_, rfl⟩, hW, hsame.mono (by decide) (by decide)⟩
      · show Steps p.tables e below (s₁.setTop (mkF m 0 #[.val (.int u0), .val (.int u1), .unset, .unset, .unset, .unset, .unset, .unset, .unset] [])) _
        refine XS.iloadN X0.here hx rfl (hb hby at_0) rfl ?_
        show Steps p.tables e below (s₁.setTop (mkF m 1 #[.val (.int u0), .val (.int u1), .unset, .unset, .unset, .unset, .unset, .unset, .unset] [(.int u0)])) _
        refine st13 _ ?_
        show Steps p.tables e below (T13.setTop (mkF m 4 #[.val (.int u0), .val (.int u1), .unset, .unset, .unset, .unset, .unset, .unset, .unset] [(.ref a_UPSTREAM)])) _
        refine XS.astoreN X13.here hx rfl (hb hby at_4) rfl rfl (l' := #[.val (.int u0), .val (.int u1), .val (.ref a_UPSTREAM), .unset, .unset, .unset, .unset, .unset, .unset]) rfl ?_
        show Steps p.tables e below (T13.setTop (mkF m 5 #[.val (.int u0), .val (.int u1), .val (.ref a_UPSTREAM), .unset, .unset, .unset, .unset, .unset, .unset] [])) _
        refine XS.iloadN X13.here hx rfl (hb hby at_5) rfl ?_
        show Steps p.tables e below (T13.setTop (mkF m 6 #[.val (.int u0), .val (.int u1), .val (.ref a_UPSTREAM), .unset, .unset, .unset, .unset, .unset, .unset] [(.int u1)])) _
        refine st14 _ ?_
        show Steps p.tables e below (T14.setTop (mkF m 9 #[.val (.int u0), .val (.int u1), .val (.ref a_UPSTREAM), .unset, .unset, .unset, .unset, .unset, .unset] [(.ref a_LIST)])) _
        refine XS.astoreN X14.here hx rfl (hb hby at_9) rfl rfl (l' := #[.val (.int u0), .val (.int u1), .val (.ref a_UPSTREAM), .val (.ref a_LIST), .unset, .unset, .unset, .unset, .unset]) rfl ?_
        show Steps p.tables e below (T14.setTop (mkF m 10 #[.val (.int u0), .val (.int u1), .val (.ref a_UPSTREAM), .val (.ref a_LIST), .unset, .unset, .unset, .unset, .unset] [])) _
        refine XS.aloadN X14.here hx rfl (hb hby at_10) rfl rfl ?_
        show Steps p.tables e below (T14.setTop (mkF m 11 #[.val (.int u0), .val (.int u1), .val (.ref a_UPSTREAM), .val (.ref a_LIST), .unset, .unset, .unset, .unset, .unset] [(.ref a_UPSTREAM)])) _
        refine st15.trans ?_
        show Steps p.tables e below (T15.setTop (mkF m 14 #[.val (.int u0), .val (.int u1), .val (.ref a_UPSTREAM), .val (.ref a_LIST), .unset, .unset, .unset, .unset, .unset] [(.ref a_ENDPOINTS)])) _
        refine XS.astore X15.here hx rfl (hb hby at_14) rfl rfl (l' := #[.val (.int u0), .val (.int u1), .val (.ref a_UPSTREAM), .val (.ref a_LIST), .val (.ref a_ENDPOINTS), .unset, .unset, .unset, .unset]) rfl ?_
        show Steps p.tables e below (T15.setTop (mkF m 16 #[.val (.int u0), .val (.int u1), .val (.ref a_UPSTREAM), .val (.ref a_LIST), .val (.ref a_ENDPOINTS), .unset, .unset, .unset, .unset] [])) _
        refine XS.aload X15.here hx rfl (hb hby at_16) rfl rfl ?_
        show Steps p.tables e below (T15.setTop (mkF m 18 #[.val (.int u0), .val (.int u1), .val (.ref a_UPSTREAM), .val (.ref a_LIST), .val (.ref a_ENDPOINTS), .unset, .unset, .unset, .unset] [(.ref a_ENDPOINTS)])) _
        refine st16.trans ?_
        show Steps p.tables e below (T16.setTop (mkF m 23 #[.val (.int u0), .val (.int u1), .val (.ref a_UPSTREAM), .val (.ref a_LIST), .val (.ref a_ENDPOINTS), .unset, .unset, .unset, .unset] [(.int (2 : Int32))])) _
        refine XS.istore X16.here hx rfl (hb hby at_23) rfl (l' := #[.val (.int u0), .val (.int u1), .val (.ref a_UPSTREAM), .val (.ref a_LIST), .val (.ref a_ENDPOINTS), .val (.int (2 : Int32)), .unset, .unset, .unset]) rfl ?_
        show Steps p.tables e below (T16.setTop (mkF m 25 #[.val (.int u0), .val (.int u1), .val (.ref a_UPSTREAM), .val (.ref a_LIST), .val (.ref a_ENDPOINTS), .val (.int (2 : Int32)), .unset, .unset, .unset] [])) _
        refine XS.aloadN X16.here hx rfl (hb hby at_25) rfl rfl ?_
        show Steps p.tables e below (T16.setTop (mkF m 26 #[.val (.int u0), .val (.int u1), .val (.ref a_UPSTREAM), .val (.ref a_LIST), .val (.ref a_ENDPOINTS), .val (.int (2 : Int32)), .unset, .unset, .unset] [(.ref a_UPSTREAM)])) _
        refine st17 _ ?_
        show Steps p.tables e below (T17.setTop (mkF m 29 #[.val (.int u0), .val (.int u1), .val (.ref a_UPSTREAM), .val (.ref a_LIST), .val (.ref a_ENDPOINTS), .val (.int (2 : Int32)), .unset, .unset, .unset] [(.ref a_UPSTREAM), (.ref a_UPSTREAM)])) _
        refine Jvm.RoadKit.acmp (g := (mkF m 29 #[.val (.int u0), .val (.int u1), .val (.ref a_UPSTREAM), .val (.ref a_LIST), .val (.ref a_ENDPOINTS), .val (.int (2 : Int32)), .unset, .unset, .unset] [(.ref a_UPSTREAM), (.ref a_UPSTREAM)])) X17 hx rfl rfl rfl (pc0 := 29) (pc' := 32) (same := true) rfl (hb hby at_29) rfl (decide_eq_true rfl) (by decide) (by decide) ?_
        show Steps p.tables e below (T17.setTop (mkF m 32 #[.val (.int u0), .val (.int u1), .val (.ref a_UPSTREAM), .val (.ref a_LIST), .val (.ref a_ENDPOINTS), .val (.int (2 : Int32)), .unset, .unset, .unset] [])) _
        refine XS.iconst X17.here hx rfl (hb hby at_32) ?_
        show Steps p.tables e below (T17.setTop (mkF m 33 #[.val (.int u0), .val (.int u1), .val (.ref a_UPSTREAM), .val (.ref a_LIST), .val (.ref a_ENDPOINTS), .val (.int (2 : Int32)), .unset, .unset, .unset] [(.int (2 : Int32))])) _
        refine XS.goto X17.here hx rfl (pc0 := 33) (pc' := 37) rfl (hb hby at_33) (by decide) (by decide) ?_
        show Steps p.tables e below (T17.setTop (mkF m 37 #[.val (.int u0), .val (.int u1), .val (.ref a_UPSTREAM), .val (.ref a_LIST), .val (.ref a_ENDPOINTS), .val (.int (2 : Int32)), .unset, .unset, .unset] [(.int (2 : Int32))])) _
        refine XS.istore X17.here hx rfl (hb hby at_37) rfl (l' := #[.val (.int u0), .val (.int u1), .val (.ref a_UPSTREAM), .val (.ref a_LIST), .val (.ref a_ENDPOINTS), .val (.int (2 : Int32)), .val (.int (2 : Int32)), .unset, .unset]) rfl ?_
        show Steps p.tables e below (T17.setTop (mkF m 39 #[.val (.int u0), .val (.int u1), .val (.ref a_UPSTREAM), .val (.ref a_LIST), .val (.ref a_ENDPOINTS), .val (.int (2 : Int32)), .val (.int (2 : Int32)), .unset, .unset] [])) _
        refine XS.iload X17.here hx rfl (hb hby at_39) rfl ?_
        show Steps p.tables e below (T17.setTop (mkF m 41 #[.val (.int u0), .val (.int u1), .val (.ref a_UPSTREAM), .val (.ref a_LIST), .val (.ref a_ENDPOINTS), .val (.int (2 : Int32)), .val (.int (2 : Int32)), .unset, .unset] [(.int (2 : Int32))])) _
        refine XS.iload X17.here hx rfl (hb hby at_41) rfl ?_
        show Steps p.tables e below (T17.setTop (mkF m 43 #[.val (.int u0), .val (.int u1), .val (.ref a_UPSTREAM), .val (.ref a_LIST), .val (.ref a_ENDPOINTS), .val (.int (2 : Int32)), .val (.int (2 : Int32)), .unset, .unset] [(.int (2 : Int32)), (.int (2 : Int32))])) _
        refine XS.icmpYes X17.here hx rfl (pc0 := 43) (pc' := 48) rfl (hb hby at_43) rfl (teq (by decide)).1 (by decide) (by decide) ?_
        show Steps p.tables e below (T17.setTop (mkF m 48 #[.val (.int u0), .val (.int u1), .val (.ref a_UPSTREAM), .val (.ref a_LIST), .val (.ref a_ENDPOINTS), .val (.int (2 : Int32)), .val (.int (2 : Int32)), .unset, .unset] [])) _
        refine XS.aload X17.here hx rfl (hb hby at_48) rfl rfl ?_
        show Steps p.tables e below (T17.setTop (mkF m 50 #[.val (.int u0), .val (.int u1), .val (.ref a_UPSTREAM), .val (.ref a_LIST), .val (.ref a_ENDPOINTS), .val (.int (2 : Int32)), .val (.int (2 : Int32)), .unset, .unset] [(.ref a_ENDPOINTS)])) _
        refine XS.iconst X17.here hx rfl (hb hby at_50) ?_
        show Steps p.tables e below (T17.setTop (mkF m 51 #[.val (.int u0), .val (.int u1), .val (.ref a_UPSTREAM), .val (.ref a_LIST), .val (.ref a_ENDPOINTS), .val (.int (2 : Int32)), .val (.int (2 : Int32)), .unset, .unset] [(.int (0 : Int32)), (.ref a_ENDPOINTS)])) _
        refine st18.trans ?_
        show Steps p.tables e below (T18.setTop (mkF m 56 #[.val (.int u0), .val (.int u1), .val (.ref a_UPSTREAM), .val (.ref a_LIST), .val (.ref a_ENDPOINTS), .val (.int (2 : Int32)), .val (.int (2 : Int32)), .unset, .unset] [(.ref a_LIST)])) _
        refine XS.aloadN X18.here hx rfl (hb hby at_56) rfl rfl ?_
        show Steps p.tables e below (T18.setTop (mkF m 57 #[.val (.int u0), .val (.int u1), .val (.ref a_UPSTREAM), .val (.ref a_LIST), .val (.ref a_ENDPOINTS), .val (.int (2 : Int32)), .val (.int (2 : Int32)), .unset, .unset] [(.ref a_LIST), (.ref a_LIST)])) _
        refine Jvm.RoadKit.acmp (g := (mkF m 57 #[.val (.int u0), .val (.int u1), .val (.ref a_UPSTREAM), .val (.ref a_LIST), .val (.ref a_ENDPOINTS), .val (.int (2 : Int32)), .val (.int (2 : Int32)), .unset, .unset] [(.ref a_LIST), (.ref a_LIST)])) X18 hx rfl rfl rfl (pc0 := 57) (pc' := 78) (same := true) rfl (hb hby at_57) rfl (decide_eq_true rfl) (by decide) (by decide) ?_
        show Steps p.tables e below (T18.setTop (mkF m 78 #[.val (.int u0), .val (.int u1), .val (.ref a_UPSTREAM), .val (.ref a_LIST), .val (.ref a_ENDPOINTS), .val (.int (2 : Int32)), .val (.int (2 : Int32)), .unset, .unset] [])) _
        refine XS.iconst X18.here hx rfl (hb hby at_78) ?_
        show Steps p.tables e below (T18.setTop (mkF m 79 #[.val (.int u0), .val (.int u1), .val (.ref a_UPSTREAM), .val (.ref a_LIST), .val (.ref a_ENDPOINTS), .val (.int (2 : Int32)), .val (.int (2 : Int32)), .unset, .unset] [(.int (1 : Int32))])) _
        refine XS.goto X18.here hx rfl (pc0 := 79) (pc' := 83) rfl (hb hby at_79) (by decide) (by decide) ?_
        show Steps p.tables e below (T18.setTop (mkF m 83 #[.val (.int u0), .val (.int u1), .val (.ref a_UPSTREAM), .val (.ref a_LIST), .val (.ref a_ENDPOINTS), .val (.int (2 : Int32)), .val (.int (2 : Int32)), .unset, .unset] [(.int (1 : Int32))])) _
        refine XS.istore X18.here hx rfl (hb hby at_83) rfl (l' := #[.val (.int u0), .val (.int u1), .val (.ref a_UPSTREAM), .val (.ref a_LIST), .val (.ref a_ENDPOINTS), .val (.int (2 : Int32)), .val (.int (2 : Int32)), .val (.int (1 : Int32)), .unset]) rfl ?_
        show Steps p.tables e below (T18.setTop (mkF m 85 #[.val (.int u0), .val (.int u1), .val (.ref a_UPSTREAM), .val (.ref a_LIST), .val (.ref a_ENDPOINTS), .val (.int (2 : Int32)), .val (.int (2 : Int32)), .val (.int (1 : Int32)), .unset] [])) _
        refine XS.aloadN X18.here hx rfl (hb hby at_85) rfl rfl ?_
        show Steps p.tables e below (T18.setTop (mkF m 86 #[.val (.int u0), .val (.int u1), .val (.ref a_UPSTREAM), .val (.ref a_LIST), .val (.ref a_ENDPOINTS), .val (.int (2 : Int32)), .val (.int (2 : Int32)), .val (.int (1 : Int32)), .unset] [(.ref a_LIST)])) _
        refine st19 _ ?_
        show Steps p.tables e below (T19.setTop (mkF m 89 #[.val (.int u0), .val (.int u1), .val (.ref a_UPSTREAM), .val (.ref a_LIST), .val (.ref a_ENDPOINTS), .val (.int (2 : Int32)), .val (.int (2 : Int32)), .val (.int (1 : Int32)), .unset] [(.ref a_UPSTREAM), (.ref a_LIST)])) _
        refine Jvm.RoadKit.acmp (g := (mkF m 89 #[.val (.int u0), .val (.int u1), .val (.ref a_UPSTREAM), .val (.ref a_LIST), .val (.ref a_ENDPOINTS), .val (.int (2 : Int32)), .val (.int (2 : Int32)), .val (.int (1 : Int32)), .unset] [(.ref a_UPSTREAM), (.ref a_LIST)])) X19 hx rfl rfl rfl (pc0 := 89) (pc' := 92) (same := false) rfl (hb hby at_89) rfl (decide_eq_false fun q => (Ne.symm ne_UPSTREAM_LIST) (Value.ref.inj q)) (by decide) (by decide) ?_
        show Steps p.tables e below (T19.setTop (mkF m 92 #[.val (.int u0), .val (.int u1), .val (.ref a_UPSTREAM), .val (.ref a_LIST), .val (.ref a_ENDPOINTS), .val (.int (2 : Int32)), .val (.int (2 : Int32)), .val (.int (1 : Int32)), .unset] [])) _
        refine XS.aloadN X19.here hx rfl (hb hby at_92) rfl rfl ?_
        show Steps p.tables e below (T19.setTop (mkF m 93 #[.val (.int u0), .val (.int u1), .val (.ref a_UPSTREAM), .val (.ref a_LIST), .val (.ref a_ENDPOINTS), .val (.int (2 : Int32)), .val (.int (2 : Int32)), .val (.int (1 : Int32)), .unset] [(.ref a_UPSTREAM)])) _
        refine st20 _ ?_
        show Steps p.tables e below (T20.setTop (mkF m 96 #[.val (.int u0), .val (.int u1), .val (.ref a_UPSTREAM), .val (.ref a_LIST), .val (.ref a_ENDPOINTS), .val (.int (2 : Int32)), .val (.int (2 : Int32)), .val (.int (1 : Int32)), .unset] [(.ref a_UPSTREAM), (.ref a_UPSTREAM)])) _
        refine Jvm.RoadKit.acmp (g := (mkF m 96 #[.val (.int u0), .val (.int u1), .val (.ref a_UPSTREAM), .val (.ref a_LIST), .val (.ref a_ENDPOINTS), .val (.int (2 : Int32)), .val (.int (2 : Int32)), .val (.int (1 : Int32)), .unset] [(.ref a_UPSTREAM), (.ref a_UPSTREAM)])) X20 hx rfl rfl rfl (pc0 := 96) (pc' := 104) (same := true) rfl (hb hby at_96) rfl (decide_eq_true rfl) (by decide) (by decide) ?_
        show Steps p.tables e below (T20.setTop (mkF m 104 #[.val (.int u0), .val (.int u1), .val (.ref a_UPSTREAM), .val (.ref a_LIST), .val (.ref a_ENDPOINTS), .val (.int (2 : Int32)), .val (.int (2 : Int32)), .val (.int (1 : Int32)), .unset] [])) _
        refine XS.iconst X20.here hx rfl (hb hby at_104) ?_
        show Steps p.tables e below (T20.setTop (mkF m 105 #[.val (.int u0), .val (.int u1), .val (.ref a_UPSTREAM), .val (.ref a_LIST), .val (.ref a_ENDPOINTS), .val (.int (2 : Int32)), .val (.int (2 : Int32)), .val (.int (1 : Int32)), .unset] [(.int (1 : Int32))])) _
        refine XS.goto X20.here hx rfl (pc0 := 105) (pc' := 109) rfl (hb hby at_105) (by decide) (by decide) ?_
        show Steps p.tables e below (T20.setTop (mkF m 109 #[.val (.int u0), .val (.int u1), .val (.ref a_UPSTREAM), .val (.ref a_LIST), .val (.ref a_ENDPOINTS), .val (.int (2 : Int32)), .val (.int (2 : Int32)), .val (.int (1 : Int32)), .unset] [(.int (1 : Int32))])) _
        refine XS.istore X20.here hx rfl (hb hby at_109) rfl (l' := #[.val (.int u0), .val (.int u1), .val (.ref a_UPSTREAM), .val (.ref a_LIST), .val (.ref a_ENDPOINTS), .val (.int (2 : Int32)), .val (.int (2 : Int32)), .val (.int (1 : Int32)), .val (.int (1 : Int32))]) rfl ?_
        show Steps p.tables e below (T20.setTop (mkF m 111 #[.val (.int u0), .val (.int u1), .val (.ref a_UPSTREAM), .val (.ref a_LIST), .val (.ref a_ENDPOINTS), .val (.int (2 : Int32)), .val (.int (2 : Int32)), .val (.int (1 : Int32)), .val (.int (1 : Int32))] [])) _
        refine XS.iload X20.here hx rfl (hb hby at_111) rfl ?_
        show Steps p.tables e below (T20.setTop (mkF m 113 #[.val (.int u0), .val (.int u1), .val (.ref a_UPSTREAM), .val (.ref a_LIST), .val (.ref a_ENDPOINTS), .val (.int (2 : Int32)), .val (.int (2 : Int32)), .val (.int (1 : Int32)), .val (.int (1 : Int32))] [(.int (1 : Int32))])) _
        refine XS.iload X20.here hx rfl (hb hby at_113) rfl ?_
        show Steps p.tables e below (T20.setTop (mkF m 115 #[.val (.int u0), .val (.int u1), .val (.ref a_UPSTREAM), .val (.ref a_LIST), .val (.ref a_ENDPOINTS), .val (.int (2 : Int32)), .val (.int (2 : Int32)), .val (.int (1 : Int32)), .val (.int (1 : Int32))] [(.int (1 : Int32)), (.int (1 : Int32))])) _
        refine XS.icmpYes X20.here hx rfl (pc0 := 115) (pc' := 120) rfl (hb hby at_115) rfl (teq (by decide)).1 (by decide) (by decide) ?_
        show Steps p.tables e below (T20.setTop (mkF m 120 #[.val (.int u0), .val (.int u1), .val (.ref a_UPSTREAM), .val (.ref a_LIST), .val (.ref a_ENDPOINTS), .val (.int (2 : Int32)), .val (.int (2 : Int32)), .val (.int (1 : Int32)), .val (.int (1 : Int32))] [])) _
        refine XS.iload X20.here hx rfl (hb hby at_120) rfl ?_
        show Steps p.tables e below (T20.setTop (mkF m 122 #[.val (.int u0), .val (.int u1), .val (.ref a_UPSTREAM), .val (.ref a_LIST), .val (.ref a_ENDPOINTS), .val (.int (2 : Int32)), .val (.int (2 : Int32)), .val (.int (1 : Int32)), .val (.int (1 : Int32))] [(.int (2 : Int32))])) _
        refine XS.iconst X20.here hx rfl (hb hby at_122) ?_
        show Steps p.tables e below (T20.setTop (mkF m 123 #[.val (.int u0), .val (.int u1), .val (.ref a_UPSTREAM), .val (.ref a_LIST), .val (.ref a_ENDPOINTS), .val (.int (2 : Int32)), .val (.int (2 : Int32)), .val (.int (1 : Int32)), .val (.int (1 : Int32))] [(.int (2 : Int32)), (.int (2 : Int32))])) _
        refine XS.icmpNo X20.here hx rfl (hb hby at_123) rfl (teq (by decide)).2 ?_
        show Steps p.tables e below (T20.setTop (mkF m 126 #[.val (.int u0), .val (.int u1), .val (.ref a_UPSTREAM), .val (.ref a_LIST), .val (.ref a_ENDPOINTS), .val (.int (2 : Int32)), .val (.int (2 : Int32)), .val (.int (1 : Int32)), .val (.int (1 : Int32))] [])) _
        refine XS.aload X20.here hx rfl (hb hby at_126) rfl rfl ?_
        show Steps p.tables e below (T20.setTop (mkF m 128 #[.val (.int u0), .val (.int u1), .val (.ref a_UPSTREAM), .val (.ref a_LIST), .val (.ref a_ENDPOINTS), .val (.int (2 : Int32)), .val (.int (2 : Int32)), .val (.int (1 : Int32)), .val (.int (1 : Int32))] [(.ref a_ENDPOINTS)])) _
        refine XS.iconst X20.here hx rfl (hb hby at_128) ?_
        show Steps p.tables e below (T20.setTop (mkF m 129 #[.val (.int u0), .val (.int u1), .val (.ref a_UPSTREAM), .val (.ref a_LIST), .val (.ref a_ENDPOINTS), .val (.int (2 : Int32)), .val (.int (2 : Int32)), .val (.int (1 : Int32)), .val (.int (1 : Int32))] [(.int (0 : Int32)), (.ref a_ENDPOINTS)])) _
        refine st21.trans ?_
        show Steps p.tables e below (T21.setTop (mkF m 134 #[.val (.int u0), .val (.int u1), .val (.ref a_UPSTREAM), .val (.ref a_LIST), .val (.ref a_ENDPOINTS), .val (.int (2 : Int32)), .val (.int (2 : Int32)), .val (.int (1 : Int32)), .val (.int (1 : Int32))] [(.ref a_LIST)])) _
        refine st22 _ ?_
        show Steps p.tables e below (T22.setTop (mkF m 137 #[.val (.int u0), .val (.int u1), .val (.ref a_UPSTREAM), .val (.ref a_LIST), .val (.ref a_ENDPOINTS), .val (.int (2 : Int32)), .val (.int (2 : Int32)), .val (.int (1 : Int32)), .val (.int (1 : Int32))] [(.ref a_LIST), (.ref a_LIST)])) _
        refine Jvm.RoadKit.acmp (g := (mkF m 137 #[.val (.int u0), .val (.int u1), .val (.ref a_UPSTREAM), .val (.ref a_LIST), .val (.ref a_ENDPOINTS), .val (.int (2 : Int32)), .val (.int (2 : Int32)), .val (.int (1 : Int32)), .val (.int (1 : Int32))] [(.ref a_LIST), (.ref a_LIST)])) X22 hx rfl rfl rfl (pc0 := 137) (pc' := 140) (same := true) rfl (hb hby at_137) rfl (decide_eq_true rfl) (by decide) (by decide) ?_
        show Steps p.tables e below (T22.setTop (mkF m 140 #[.val (.int u0), .val (.int u1), .val (.ref a_UPSTREAM), .val (.ref a_LIST), .val (.ref a_ENDPOINTS), .val (.int (2 : Int32)), .val (.int (2 : Int32)), .val (.int (1 : Int32)), .val (.int (1 : Int32))] [])) _
        refine XS.aload X22.here hx rfl (hb hby at_140) rfl rfl ?_
        show Steps p.tables e below (T22.setTop (mkF m 142 #[.val (.int u0), .val (.int u1), .val (.ref a_UPSTREAM), .val (.ref a_LIST), .val (.ref a_ENDPOINTS), .val (.int (2 : Int32)), .val (.int (2 : Int32)), .val (.int (1 : Int32)), .val (.int (1 : Int32))] [(.ref a_ENDPOINTS)])) _
        refine XS.iconst X22.here hx rfl (hb hby at_142) ?_
        show Steps p.tables e below (T22.setTop (mkF m 143 #[.val (.int u0), .val (.int u1), .val (.ref a_UPSTREAM), .val (.ref a_LIST), .val (.ref a_ENDPOINTS), .val (.int (2 : Int32)), .val (.int (2 : Int32)), .val (.int (1 : Int32)), .val (.int (1 : Int32))] [(.int (1 : Int32)), (.ref a_ENDPOINTS)])) _
        refine st23.trans ?_
        show Steps p.tables e below (T23.setTop (mkF m 148 #[.val (.int u0), .val (.int u1), .val (.ref a_UPSTREAM), .val (.ref a_LIST), .val (.ref a_ENDPOINTS), .val (.int (2 : Int32)), .val (.int (2 : Int32)), .val (.int (1 : Int32)), .val (.int (1 : Int32))] [(.ref a_ITEM)])) _
        refine st24 _ ?_
        show Steps p.tables e below (T24.setTop (mkF m 151 #[.val (.int u0), .val (.int u1), .val (.ref a_UPSTREAM), .val (.ref a_LIST), .val (.ref a_ENDPOINTS), .val (.int (2 : Int32)), .val (.int (2 : Int32)), .val (.int (1 : Int32)), .val (.int (1 : Int32))] [(.ref a_ITEM), (.ref a_ITEM)])) _
        refine Jvm.RoadKit.acmp (g := (mkF m 151 #[.val (.int u0), .val (.int u1), .val (.ref a_UPSTREAM), .val (.ref a_LIST), .val (.ref a_ENDPOINTS), .val (.int (2 : Int32)), .val (.int (2 : Int32)), .val (.int (1 : Int32)), .val (.int (1 : Int32))] [(.ref a_ITEM), (.ref a_ITEM)])) X24 hx rfl rfl rfl (pc0 := 151) (pc' := 156) (same := true) rfl (hb hby at_151) rfl (decide_eq_true rfl) (by decide) (by decide) ?_
        show Steps p.tables e below (T24.setTop (mkF m 156 #[.val (.int u0), .val (.int u1), .val (.ref a_UPSTREAM), .val (.ref a_LIST), .val (.ref a_ENDPOINTS), .val (.int (2 : Int32)), .val (.int (2 : Int32)), .val (.int (1 : Int32)), .val (.int (1 : Int32))] [])) _
        refine XS.iconst X24.here hx rfl (hb hby at_156) ?_
        show Steps p.tables e below (T24.setTop (mkF m 157 #[.val (.int u0), .val (.int u1), .val (.ref a_UPSTREAM), .val (.ref a_LIST), .val (.ref a_ENDPOINTS), .val (.int (2 : Int32)), .val (.int (2 : Int32)), .val (.int (1 : Int32)), .val (.int (1 : Int32))] [(.int (1 : Int32))])) _
        exact retN X24 hx (t := .boolean) Bd.returns (by simp) (hb hby at_157) hr
      · show Q0 Z u0 u1 a_UPSTREAM a_LIST a_ITEM a_ENDPOINTS a_EMPTY h0 n0 _ T24.heap _
        rw [e24]
        exact ⟨rfl, N23⟩
    · obtain ⟨_, _, ⟨T25, L25, k25, n25⟩, -, X25, ⟨Lc25, hQ25, l25, y25, z25⟩, st25⟩ := Jvm.LawKit.callS X0 hx (y := (⟨"com/example/backfill/backfill/engine/LaneEndpointsPinLaw", "pick", "(I)Lcom/example/backfill/backfill/engine/Lane;"⟩ : MethodName)) hown (mvT hZ (hw _ (List.mem_of_getElem? (i := 0) rfl))) (mvT hZ (hw _ (List.mem_of_getElem? (i := 1) rfl))) (mvT hZ (hw _ (List.mem_of_getElem? (i := 2) rfl))) (mvT hZ (hw _ (List.mem_of_getElem? (i := 3) rfl))) (by decide) (backOf (W := 0) (rm1 l Z a0 hw [] u0 a_UPSTREAM a_LIST a_ITEM h0 n0 Z0 O0 S_UPSTREAM S_LIST S_ITEM) hZ (hw _ (List.mem_of_getElem? (i := 3) rfl)) (hw _ (List.mem_of_getElem? (i := 2) rfl)) (by decide) (by decide)) (g := (mkF m 1 #[.val (.int u0), .val (.int u1), .unset, .unset, .unset, .unset, .unset, .unset, .unset] [(.int u0)])) rfl (by rw [hml]; rfl) (argsL := [(.int u0)]) (rest := []) (lenOf pd_3 rfl) rfl (by show 2 * 0 + _ ≤ _; exact Nat.le_of_eq rfl) (hb hby at_1) (fun _ _ => ⟨rfl, e0, (by decide : 0 + 0 ≤ _), (by decide : 0 + 0 ≤ _)⟩)
      dsimp only [Pt.U, Pt.locs, Pt.cells, Pt.slots] at X25 l25 y25 z25 st25 hQ25
      subst l25 y25 z25
      obtain ⟨hv25, N25q, e25⟩ := hQ25
      rw [hp0] at hv25
      subst hv25
      have N25 := Fr.app N0 N25q
      obtain ⟨_, _, ⟨T26, L26, k26, n26⟩, -, X26, ⟨Lc26, hQ26, l26, y26, z26⟩, st26⟩ := Jvm.LawKit.callS X25 hx (y := (⟨"com/example/backfill/backfill/engine/LaneEndpointsPinLaw", "pick", "(I)Lcom/example/backfill/backfill/engine/Lane;"⟩ : MethodName)) hown (mvT hZ (hw _ (List.mem_of_getElem? (i := 0) rfl))) (mvT hZ (hw _ (List.mem_of_getElem? (i := 1) rfl))) (mvT hZ (hw _ (List.mem_of_getElem? (i := 2) rfl))) (mvT hZ (hw _ (List.mem_of_getElem? (i := 3) rfl))) (by decide) (backOf (W := 0) (rm1 l Z a0 hw [] u1 a_UPSTREAM a_LIST a_ITEM h0 n0 Z0 O0 S_UPSTREAM S_LIST S_ITEM) hZ (hw _ (List.mem_of_getElem? (i := 3) rfl)) (hw _ (List.mem_of_getElem? (i := 2) rfl)) (by decide) (by decide)) (g := (mkF m 6 #[.val (.int u0), .val (.int u1), .val (.ref a_UPSTREAM), .unset, .unset, .unset, .unset, .unset, .unset] [(.int u1)])) rfl (by rw [hml]; rfl) (argsL := [(.int u1)]) (rest := []) (lenOf pd_3 rfl) rfl (by show 2 * 0 + _ ≤ _; exact Nat.le_of_eq rfl) (hb hby at_6) (fun _ _ => ⟨rfl, e25, (by decide : 0 + 0 ≤ _), (by decide : 0 + 0 ≤ _)⟩)
      dsimp only [Pt.U, Pt.locs, Pt.cells, Pt.slots] at X26 l26 y26 z26 st26 hQ26
      subst l26 y26 z26
      obtain ⟨hv26, N26q, e26⟩ := hQ26
      rw [hp1] at hv26
      subst hv26
      have N26 := Fr.app N25 N26q
      obtain ⟨cq27, kq27, q27a, q27b, q27c⟩ := isOf hZ e26 (E_a_UPSTREAM.ext O0.2)
      obtain ⟨_, _, ⟨T27, L27, k27, n27⟩, -, X27, ⟨Lc27, hQ27, l27, y27, z27⟩, st27⟩ := X26.virtualBack hx (y := (⟨"com/example/backfill/backfill/engine/Lane", "endpoints", "()Ljava/util/List;"⟩ : MethodName)) (z := (⟨"com/example/backfill/backfill/engine/Lane", "endpoints", "()Ljava/util/List;"⟩ : MethodName)) hown (mvT hZ (hw _ (List.mem_of_getElem? (i := 8) rfl))) (mvT hZ (hw _ (List.mem_of_getElem? (i := 9) rfl))) (notFace_of_selects (args := #[]) (mvT hZ (hw _ (List.mem_of_getElem? (i := 11) rfl)))) (mvT hZ (hw _ (List.mem_of_getElem? (i := 11) rfl))) (mvT hZ (hw _ (List.mem_of_getElem? (i := 10) rfl))) (by decide) (backOf (W := 0) (rm2U l Z a0 hw [] a_UPSTREAM a_ENDPOINTS h0 n0 Z0 O0 S_UPSTREAM S_ENDPOINTS) hZ (hw _ (List.mem_of_getElem? (i := 12) rfl)) (hw _ (List.mem_of_getElem? (i := 6) rfl)) (by decide) (by decide)) q27a q27c (g := (mkF m 11 #[.val (.int u0), .val (.int u1), .val (.ref a_UPSTREAM), .val (.ref a_ITEM), .unset, .unset, .unset, .unset, .unset] [(.ref a_UPSTREAM)])) rfl (by rw [hml]; rfl) (Steps.refl _) (argsL := []) (rest := []) (lenOf pd_1 rfl) rfl (by show 2 * 0 + _ ≤ _; exact Nat.le_of_eq rfl) (hb hby at_11) (fun _ _ => ⟨rfl, e26, (by decide : 0 + 0 ≤ _), (by decide : 0 + 0 ≤ _)⟩)
      dsimp only [Pt.U, Pt.locs, Pt.cells, Pt.slots] at X27 l27 y27 z27 st27 hQ27
      subst l27 y27 z27
      obtain ⟨rfl, N27q, e27⟩ := hQ27
      have N27 := Fr.app N26 N27q
      obtain ⟨cq28, kq28, q28a, q28b, q28c⟩ := isOf hZ e27 (E_a_ENDPOINTS.ext O0.2)
      obtain ⟨_, _, ⟨T28, L28, k28, n28⟩, -, X28, ⟨Lc28, hQ28, l28, y28, z28⟩, st28⟩ := X27.interfaceBack hx (xi := (⟨"java/util/List", "size", "()I"⟩ : MethodName)) (y := (⟨"java/util/ImmutableCollections$List12", "size", "()I"⟩ : MethodName)) hown (mvT hZ (hw _ (List.mem_of_getElem? (i := 16) rfl))) (mvT hZ (hw _ (List.mem_of_getElem? (i := 17) rfl))) (mvT hZ (hw _ (List.mem_of_getElem? (i := 18) rfl))) (mvT hZ (hw _ (List.mem_of_getElem? (i := 19) rfl))) (mvT hZ (hw _ (List.mem_of_getElem? (i := 20) rfl))) (mvT hZ (hw _ (List.mem_of_getElem? (i := 21) rfl))) (mvT hZ (hw _ (List.mem_of_getElem? (i := 22) rfl))) (mvT hZ (hw _ (List.mem_of_getElem? (i := 23) rfl))) (by decide) (backOf (W := 0) (rm3 l Z a0 hw [] a_ENDPOINTS a_ITEM a_EMPTY h0 n0 Z0 O0 S_EMPTY (F_ENDPOINTS_e1.ext O0.2)) hZ (hw _ (List.mem_of_getElem? (i := 25) rfl)) (hw _ (List.mem_of_getElem? (i := 24) rfl)) (by decide) (by decide)) q28a q28b q28c (g := (mkF m 18 #[.val (.int u0), .val (.int u1), .val (.ref a_UPSTREAM), .val (.ref a_ITEM), .val (.ref a_ENDPOINTS), .unset, .unset, .unset, .unset] [(.ref a_ENDPOINTS)])) rfl (by rw [hml]; rfl) (Steps.refl _) (argsL := []) (rest := []) (lenOf pd_0 rfl) rfl (by show 2 * 0 + _ ≤ _; exact Nat.le_of_eq rfl) (hb hby at_18) (fun _ _ => ⟨rfl, e27, (by decide : 0 + 0 ≤ _), (by decide : 0 + 0 ≤ _)⟩)
      dsimp only [Pt.U, Pt.locs, Pt.cells, Pt.slots] at X28 l28 y28 z28 st28 hQ28
      subst l28 y28 z28
      obtain ⟨hv28, N28q, e28⟩ := hQ28
      rw [show sz12 a_ITEM a_EMPTY = (2 : Int32) from by simp [sz12, ne_ITEM_EMPTY]] at hv28
      subst hv28
      have N28 := Fr.app N27 N28q
      obtain ⟨T29, X29, e29, st29⟩ := getS2 X28 hx hZ hown (host := "") (Or.inl (hw _ (List.mem_of_getElem? (i := 5) rfl))) Via.refl e28 (S_UPSTREAM.ext O0.2) (g := (mkF m 26 #[.val (.int u0), .val (.int u1), .val (.ref a_UPSTREAM), .val (.ref a_ITEM), .val (.ref a_ENDPOINTS), .val (.int (2 : Int32)), .unset, .unset, .unset] [(.ref a_UPSTREAM)])) rfl (hb hby at_26)
      obtain ⟨cq30, kq30, q30a, q30b, q30c⟩ := isOf hZ e29 (E_a_ENDPOINTS.ext O0.2)
      obtain ⟨_, _, ⟨T30, L30, k30, n30⟩, -, X30, ⟨Lc30, hQ30, l30, y30, z30⟩, st30⟩ := X29.interfaceBack hx (xi := (⟨"java/util/List", "get", "(I)Ljava/lang/Object;"⟩ : MethodName)) (y := (⟨"java/util/ImmutableCollections$List12", "get", "(I)Ljava/lang/Object;"⟩ : MethodName)) hown (mvT hZ (hw _ (List.mem_of_getElem? (i := 31) rfl))) (mvT hZ (hw _ (List.mem_of_getElem? (i := 32) rfl))) (mvT hZ (hw _ (List.mem_of_getElem? (i := 33) rfl))) (mvT hZ (hw _ (List.mem_of_getElem? (i := 34) rfl))) (mvT hZ (hw _ (List.mem_of_getElem? (i := 35) rfl))) (mvT hZ (hw _ (List.mem_of_getElem? (i := 36) rfl))) (mvT hZ (hw _ (List.mem_of_getElem? (i := 37) rfl))) (mvT hZ (hw _ (List.mem_of_getElem? (i := 23) rfl))) (by decide) (backOf (W := 0) (rm4a l Z a0 hw [] a_ENDPOINTS a_LIST h0 n0 Z0 O0 (F_ENDPOINTS_e0.ext O0.2)) hZ (hw _ (List.mem_of_getElem? (i := 38) rfl)) (hw _ (List.mem_of_getElem? (i := 24) rfl)) (by decide) (by decide)) q30a q30b q30c (g := (mkF m 51 #[.val (.int u0), .val (.int u1), .val (.ref a_UPSTREAM), .val (.ref a_ITEM), .val (.ref a_ENDPOINTS), .val (.int (2 : Int32)), .val (.int (2 : Int32)), .unset, .unset] [(.int (0 : Int32)), (.ref a_ENDPOINTS)])) rfl (by rw [hml]; rfl) (Steps.refl _) (argsL := [(.int (0 : Int32))]) (rest := []) (lenOf pd_4 rfl) rfl (by show 2 * 0 + _ ≤ _; exact Nat.le_of_eq rfl) (hb hby at_51) (fun _ _ => ⟨rfl, e29, (by decide : 0 + 0 ≤ _), (by decide : 0 + 0 ≤ _)⟩)
      dsimp only [Pt.U, Pt.locs, Pt.cells, Pt.slots] at X30 l30 y30 z30 st30 hQ30
      subst l30 y30 z30
      obtain ⟨rfl, N30q, e30⟩ := hQ30
      have N30 := Fr.app N28 N30q
      obtain ⟨cq31, kq31, q31a, q31b, q31c⟩ := isOf hZ e30 (E_a_ENDPOINTS.ext O0.2)
      obtain ⟨_, _, ⟨T31, L31, k31, n31⟩, -, X31, ⟨Lc31, hQ31, l31, y31, z31⟩, st31⟩ := X30.interfaceBack hx (xi := (⟨"java/util/List", "get", "(I)Ljava/lang/Object;"⟩ : MethodName)) (y := (⟨"java/util/ImmutableCollections$List12", "get", "(I)Ljava/lang/Object;"⟩ : MethodName)) hown (mvT hZ (hw _ (List.mem_of_getElem? (i := 31) rfl))) (mvT hZ (hw _ (List.mem_of_getElem? (i := 32) rfl))) (mvT hZ (hw _ (List.mem_of_getElem? (i := 33) rfl))) (mvT hZ (hw _ (List.mem_of_getElem? (i := 34) rfl))) (mvT hZ (hw _ (List.mem_of_getElem? (i := 35) rfl))) (mvT hZ (hw _ (List.mem_of_getElem? (i := 36) rfl))) (mvT hZ (hw _ (List.mem_of_getElem? (i := 37) rfl))) (mvT hZ (hw _ (List.mem_of_getElem? (i := 23) rfl))) (by decide) (backOf (W := 0) (rm4b l Z a0 hw [] a_ENDPOINTS a_ITEM a_EMPTY h0 n0 Z0 O0 S_EMPTY (F_ENDPOINTS_e1.ext O0.2) ne_ITEM_EMPTY) hZ (hw _ (List.mem_of_getElem? (i := 38) rfl)) (hw _ (List.mem_of_getElem? (i := 24) rfl)) (by decide) (by decide)) q31a q31b q31c (g := (mkF m 69 #[.val (.int u0), .val (.int u1), .val (.ref a_UPSTREAM), .val (.ref a_ITEM), .val (.ref a_ENDPOINTS), .val (.int (2 : Int32)), .val (.int (2 : Int32)), .unset, .unset] [(.int (1 : Int32)), (.ref a_ENDPOINTS)])) rfl (by rw [hml]; rfl) (Steps.refl _) (argsL := [(.int (1 : Int32))]) (rest := []) (lenOf pd_4 rfl) rfl (by show 2 * 0 + _ ≤ _; exact Nat.le_of_eq rfl) (hb hby at_69) (fun _ _ => ⟨rfl, e30, (by decide : 0 + 0 ≤ _), (by decide : 0 + 0 ≤ _)⟩)
      dsimp only [Pt.U, Pt.locs, Pt.cells, Pt.slots] at X31 l31 y31 z31 st31 hQ31
      subst l31 y31 z31
      obtain ⟨rfl, N31q, e31⟩ := hQ31
      have N31 := Fr.app N30 N31q
      obtain ⟨T32, X32, e32, st32⟩ := getS2 X31 hx hZ hown (host := "") (Or.inl (hw _ (List.mem_of_getElem? (i := 5) rfl))) Via.refl e31 (S_UPSTREAM.ext O0.2) (g := (mkF m 86 #[.val (.int u0), .val (.int u1), .val (.ref a_UPSTREAM), .val (.ref a_ITEM), .val (.ref a_ENDPOINTS), .val (.int (2 : Int32)), .val (.int (2 : Int32)), .val (.int (1 : Int32)), .unset] [(.ref a_ITEM)])) rfl (hb hby at_86)
      obtain ⟨T33, X33, e33, st33⟩ := getS2 X32 hx hZ hown (host := "") (Or.inl (hw _ (List.mem_of_getElem? (i := 5) rfl))) Via.refl e32 (S_UPSTREAM.ext O0.2) (g := (mkF m 93 #[.val (.int u0), .val (.int u1), .val (.ref a_UPSTREAM), .val (.ref a_ITEM), .val (.ref a_ENDPOINTS), .val (.int (2 : Int32)), .val (.int (2 : Int32)), .val (.int (1 : Int32)), .unset] [(.ref a_UPSTREAM)])) rfl (hb hby at_93)
      obtain ⟨cq34, kq34, q34a, q34b, q34c⟩ := isOf hZ e33 (E_a_ENDPOINTS.ext O0.2)
      obtain ⟨_, _, ⟨T34, L34, k34, n34⟩, -, X34, ⟨Lc34, hQ34, l34, y34, z34⟩, st34⟩ := X33.interfaceBack hx (xi := (⟨"java/util/List", "get", "(I)Ljava/lang/Object;"⟩ : MethodName)) (y := (⟨"java/util/ImmutableCollections$List12", "get", "(I)Ljava/lang/Object;"⟩ : MethodName)) hown (mvT hZ (hw _ (List.mem_of_getElem? (i := 31) rfl))) (mvT hZ (hw _ (List.mem_of_getElem? (i := 32) rfl))) (mvT hZ (hw _ (List.mem_of_getElem? (i := 33) rfl))) (mvT hZ (hw _ (List.mem_of_getElem? (i := 34) rfl))) (mvT hZ (hw _ (List.mem_of_getElem? (i := 35) rfl))) (mvT hZ (hw _ (List.mem_of_getElem? (i := 36) rfl))) (mvT hZ (hw _ (List.mem_of_getElem? (i := 37) rfl))) (mvT hZ (hw _ (List.mem_of_getElem? (i := 23) rfl))) (by decide) (backOf (W := 0) (rm4a l Z a0 hw [] a_ENDPOINTS a_LIST h0 n0 Z0 O0 (F_ENDPOINTS_e0.ext O0.2)) hZ (hw _ (List.mem_of_getElem? (i := 38) rfl)) (hw _ (List.mem_of_getElem? (i := 24) rfl)) (by decide) (by decide)) q34a q34b q34c (g := (mkF m 129 #[.val (.int u0), .val (.int u1), .val (.ref a_UPSTREAM), .val (.ref a_ITEM), .val (.ref a_ENDPOINTS), .val (.int (2 : Int32)), .val (.int (2 : Int32)), .val (.int (1 : Int32)), .val (.int (1 : Int32))] [(.int (0 : Int32)), (.ref a_ENDPOINTS)])) rfl (by rw [hml]; rfl) (Steps.refl _) (argsL := [(.int (0 : Int32))]) (rest := []) (lenOf pd_4 rfl) rfl (by show 2 * 0 + _ ≤ _; exact Nat.le_of_eq rfl) (hb hby at_129) (fun _ _ => ⟨rfl, e33, (by decide : 0 + 0 ≤ _), (by decide : 0 + 0 ≤ _)⟩)
      dsimp only [Pt.U, Pt.locs, Pt.cells, Pt.slots] at X34 l34 y34 z34 st34 hQ34
      subst l34 y34 z34
      obtain ⟨rfl, N34q, e34⟩ := hQ34
      have N34 := Fr.app N31 N34q
      obtain ⟨T35, X35, e35, st35⟩ := getS2 X34 hx hZ hown (host := "") (Or.inl (hw _ (List.mem_of_getElem? (i := 42) rfl))) Via.refl e34 (S_LIST.ext O0.2) (g := (mkF m 134 #[.val (.int u0), .val (.int u1), .val (.ref a_UPSTREAM), .val (.ref a_ITEM), .val (.ref a_ENDPOINTS), .val (.int (2 : Int32)), .val (.int (2 : Int32)), .val (.int (1 : Int32)), .val (.int (1 : Int32))] [(.ref a_LIST)])) rfl (hb hby at_134)
      obtain ⟨cq36, kq36, q36a, q36b, q36c⟩ := isOf hZ e35 (E_a_ENDPOINTS.ext O0.2)
      obtain ⟨_, _, ⟨T36, L36, k36, n36⟩, -, X36, ⟨Lc36, hQ36, l36, y36, z36⟩, st36⟩ := X35.interfaceBack hx (xi := (⟨"java/util/List", "get", "(I)Ljava/lang/Object;"⟩ : MethodName)) (y := (⟨"java/util/ImmutableCollections$List12", "get", "(I)Ljava/lang/Object;"⟩ : MethodName)) hown (mvT hZ (hw _ (List.mem_of_getElem? (i := 31) rfl))) (mvT hZ (hw _ (List.mem_of_getElem? (i := 32) rfl))) (mvT hZ (hw _ (List.mem_of_getElem? (i := 33) rfl))) (mvT hZ (hw _ (List.mem_of_getElem? (i := 34) rfl))) (mvT hZ (hw _ (List.mem_of_getElem? (i := 35) rfl))) (mvT hZ (hw _ (List.mem_of_getElem? (i := 36) rfl))) (mvT hZ (hw _ (List.mem_of_getElem? (i := 37) rfl))) (mvT hZ (hw _ (List.mem_of_getElem? (i := 23) rfl))) (by decide) (backOf (W := 0) (rm4b l Z a0 hw [] a_ENDPOINTS a_ITEM a_EMPTY h0 n0 Z0 O0 S_EMPTY (F_ENDPOINTS_e1.ext O0.2) ne_ITEM_EMPTY) hZ (hw _ (List.mem_of_getElem? (i := 38) rfl)) (hw _ (List.mem_of_getElem? (i := 24) rfl)) (by decide) (by decide)) q36a q36b q36c (g := (mkF m 143 #[.val (.int u0), .val (.int u1), .val (.ref a_UPSTREAM), .val (.ref a_ITEM), .val (.ref a_ENDPOINTS), .val (.int (2 : Int32)), .val (.int (2 : Int32)), .val (.int (1 : Int32)), .val (.int (1 : Int32))] [(.int (1 : Int32)), (.ref a_ENDPOINTS)])) rfl (by rw [hml]; rfl) (Steps.refl _) (argsL := [(.int (1 : Int32))]) (rest := []) (lenOf pd_4 rfl) rfl (by show 2 * 0 + _ ≤ _; exact Nat.le_of_eq rfl) (hb hby at_143) (fun _ _ => ⟨rfl, e35, (by decide : 0 + 0 ≤ _), (by decide : 0 + 0 ≤ _)⟩)
      dsimp only [Pt.U, Pt.locs, Pt.cells, Pt.slots] at X36 l36 y36 z36 st36 hQ36
      subst l36 y36 z36
      obtain ⟨rfl, N36q, e36⟩ := hQ36
      have N36 := Fr.app N34 N36q
      obtain ⟨T37, X37, e37, st37⟩ := getS2 X36 hx hZ hown (host := "") (Or.inl (hw _ (List.mem_of_getElem? (i := 43) rfl))) Via.refl e36 (S_ITEM.ext O0.2) (g := (mkF m 148 #[.val (.int u0), .val (.int u1), .val (.ref a_UPSTREAM), .val (.ref a_ITEM), .val (.ref a_ENDPOINTS), .val (.int (2 : Int32)), .val (.int (2 : Int32)), .val (.int (1 : Int32)), .val (.int (1 : Int32))] [(.ref a_ITEM)])) rfl (hb hby at_148)
      obtain ⟨fs, hr, hrun, hended, hW, hsame⟩ := X37.leave (v := some (.int (1 : Int32))) (fun h => by rw [Bd.returns] at h; cases h)
      refine ⟨_, _, pre0 _ ?_, hrun, hended, _, _, rfl, ?_, ⟨_, rfl⟩, hW, hsame.mono (by decide) (by decide)⟩
      · show Steps p.tables e below (s₁.setTop (mkF m 0 #[.val (.int u0), .val (.int u1), .unset, .unset, .unset, .unset, .unset, .unset, .unset] [])) _
        refine XS.iloadN X0.here hx rfl (hb hby at_0) rfl ?_
        show Steps p.tables e below (s₁.setTop (mkF m 1 #[.val (.int u0), .val (.int u1), .unset, .unset, .unset, .unset, .unset, .unset, .unset] [(.int u0)])) _
        refine st25 _ ?_
        show Steps p.tables e below (T25.setTop (mkF m 4 #[.val (.int u0), .val (.int u1), .unset, .unset, .unset, .unset, .unset, .unset, .unset] [(.ref a_UPSTREAM)])) _
        refine XS.astoreN X25.here hx rfl (hb hby at_4) rfl rfl (l' := #[.val (.int u0), .val (.int u1), .val (.ref a_UPSTREAM), .unset, .unset, .unset, .unset, .unset, .unset]) rfl ?_
        show Steps p.tables e below (T25.setTop (mkF m 5 #[.val (.int u0), .val (.int u1), .val (.ref a_UPSTREAM), .unset, .unset, .unset, .unset, .unset, .unset] [])) _
        refine XS.iloadN X25.here hx rfl (hb hby at_5) rfl ?_
        show Steps p.tables e below (T25.setTop (mkF m 6 #[.val (.int u0), .val (.int u1), .val (.ref a_UPSTREAM), .unset, .unset, .unset, .unset, .unset, .unset] [(.int u1)])) _
        refine st26 _ ?_
        show Steps p.tables e below (T26.setTop (mkF m 9 #[.val (.int u0), .val (.int u1), .val (.ref a_UPSTREAM), .unset, .unset, .unset, .unset, .unset, .unset] [(.ref a_ITEM)])) _
        refine XS.astoreN X26.here hx rfl (hb hby at_9) rfl rfl (l' := #[.val (.int u0), .val (.int u1), .val (.ref a_UPSTREAM), .val (.ref a_ITEM), .unset, .unset, .unset, .unset, .unset]) rfl ?_
        show Steps p.tables e below (T26.setTop (mkF m 10 #[.val (.int u0), .val (.int u1), .val (.ref a_UPSTREAM), .val (.ref a_ITEM), .unset, .unset, .unset, .unset, .unset] [])) _
        refine XS.aloadN X26.here hx rfl (hb hby at_10) rfl rfl ?_
        show Steps p.tables e below (T26.setTop (mkF m 11 #[.val (.int u0), .val (.int u1), .val (.ref a_UPSTREAM), .val (.ref a_ITEM), .unset, .unset, .unset, .unset, .unset] [(.ref a_UPSTREAM)])) _
        refine st27.trans ?_
        show Steps p.tables e below (T27.setTop (mkF m 14 #[.val (.int u0), .val (.int u1), .val (.ref a_UPSTREAM), .val (.ref a_ITEM), .unset, .unset, .unset, .unset, .unset] [(.ref a_ENDPOINTS)])) _
        refine XS.astore X27.here hx rfl (hb hby at_14) rfl rfl (l' := #[.val (.int u0), .val (.int u1), .val (.ref a_UPSTREAM), .val (.ref a_ITEM), .val (.ref a_ENDPOINTS), .unset, .unset, .unset, .unset]) rfl ?_
        show Steps p.tables e below (T27.setTop (mkF m 16 #[.val (.int u0), .val (.int u1), .val (.ref a_UPSTREAM), .val (.ref a_ITEM), .val (.ref a_ENDPOINTS), .unset, .unset, .unset, .unset] [])) _
        refine XS.aload X27.here hx rfl (hb hby at_16) rfl rfl ?_
        show Steps p.tables e below (T27.setTop (mkF m 18 #[.val (.int u0), .val (.int u1), .val (.ref a_UPSTREAM), .val (.ref a_ITEM), .val (.ref a_ENDPOINTS), .unset, .unset, .unset, .unset] [(.ref a_ENDPOINTS)])) _
        refine st28.trans ?_
        show Steps p.tables e below (T28.setTop (mkF m 23 #[.val (.int u0), .val (.int u1), .val (.ref a_UPSTREAM), .val (.ref a_ITEM), .val (.ref a_ENDPOINTS), .unset, .unset, .unset, .unset] [(.int (2 : Int32))])) _
        refine XS.istore X28.here hx rfl (hb hby at_23) rfl (l' := #[.val (.int u0), .val (.int u1), .val (.ref a_UPSTREAM), .val (.ref a_ITEM), .val (.ref a_ENDPOINTS), .val (.int (2 : Int32)), .unset, .unset, .unset]) rfl ?_
        show Steps p.tables e below (T28.setTop (mkF m 25 #[.val (.int u0), .val (.int u1), .val (.ref a_UPSTREAM), .val (.ref a_ITEM), .val (.ref a_ENDPOINTS), .val (.int (2 : Int32)), .unset, .unset, .unset] [])) _
        refine XS.aloadN X28.here hx rfl (hb hby at_25) rfl rfl ?_
        show Steps p.tables e below (T28.setTop (mkF m 26 #[.val (.int u0), .val (.int u1), .val (.ref a_UPSTREAM), .val (.ref a_ITEM), .val (.ref a_ENDPOINTS), .val (.int (2 : Int32)), .unset, .unset, .unset] [(.ref a_UPSTREAM)])) _
        refine st29 _ ?_
        show Steps p.tables e below (T29.setTop (mkF m 29 #[.val (.int u0), .val (.int u1), .val (.ref a_UPSTREAM), .val (.ref a_ITEM), .val (.ref a_ENDPOINTS), .val (.int (2 : Int32)), .unset, .unset, .unset] [(.ref a_UPSTREAM), (.ref a_UPSTREAM)])) _
        refine Jvm.RoadKit.acmp (g := (mkF m 29 #[.val (.int u0), .val (.int u1), .val (.ref a_UPSTREAM), .val (.ref a_ITEM), .val (.ref a_ENDPOINTS), .val (.int (2 : Int32)), .unset, .unset, .unset] [(.ref a_UPSTREAM), (.ref a_UPSTREAM)])) X29 hx rfl rfl rfl (pc0 := 29) (pc' := 32) (same := true) rfl (hb hby at_29) rfl (decide_eq_true rfl) (by decide) (by decide) ?_
        show Steps p.tables e below (T29.setTop (mkF m 32 #[.val (.int u0), .val (.int u1), .val (.ref a_UPSTREAM), .val (.ref a_ITEM), .val (.ref a_ENDPOINTS), .val (.int (2 : Int32)), .unset, .unset, .unset] [])) _
        refine XS.iconst X29.here hx rfl (hb hby at_32) ?_
        show Steps p.tables e below (T29.setTop (mkF m 33 #[.val (.int u0), .val (.int u1), .val (.ref a_UPSTREAM), .val (.ref a_ITEM), .val (.ref a_ENDPOINTS), .val (.int (2 : Int32)), .unset, .unset, .unset] [(.int (2 : Int32))])) _
        refine XS.goto X29.here hx rfl (pc0 := 33) (pc' := 37) rfl (hb hby at_33) (by decide) (by decide) ?_
        show Steps p.tables e below (T29.setTop (mkF m 37 #[.val (.int u0), .val (.int u1), .val (.ref a_UPSTREAM), .val (.ref a_ITEM), .val (.ref a_ENDPOINTS), .val (.int (2 : Int32)), .unset, .unset, .unset] [(.int (2 : Int32))])) _
        refine XS.istore X29.here hx rfl (hb hby at_37) rfl (l' := #[.val (.int u0), .val (.int u1), .val (.ref a_UPSTREAM), .val (.ref a_ITEM), .val (.ref a_ENDPOINTS), .val (.int (2 : Int32)), .val (.int (2 : Int32)), .unset, .unset]) rfl ?_
        show Steps p.tables e below (T29.setTop (mkF m 39 #[.val (.int u0), .val (.int u1), .val (.ref a_UPSTREAM), .val (.ref a_ITEM), .val (.ref a_ENDPOINTS), .val (.int (2 : Int32)), .val (.int (2 : Int32)), .unset, .unset] [])) _
        refine XS.iload X29.here hx rfl (hb hby at_39) rfl ?_
        show Steps p.tables e below (T29.setTop (mkF m 41 #[.val (.int u0), .val (.int u1), .val (.ref a_UPSTREAM), .val (.ref a_ITEM), .val (.ref a_ENDPOINTS), .val (.int (2 : Int32)), .val (.int (2 : Int32)), .unset, .unset] [(.int (2 : Int32))])) _
        refine XS.iload X29.here hx rfl (hb hby at_41) rfl ?_
        show Steps p.tables e below (T29.setTop (mkF m 43 #[.val (.int u0), .val (.int u1), .val (.ref a_UPSTREAM), .val (.ref a_ITEM), .val (.ref a_ENDPOINTS), .val (.int (2 : Int32)), .val (.int (2 : Int32)), .unset, .unset] [(.int (2 : Int32)), (.int (2 : Int32))])) _
        refine XS.icmpYes X29.here hx rfl (pc0 := 43) (pc' := 48) rfl (hb hby at_43) rfl (teq (by decide)).1 (by decide) (by decide) ?_
        show Steps p.tables e below (T29.setTop (mkF m 48 #[.val (.int u0), .val (.int u1), .val (.ref a_UPSTREAM), .val (.ref a_ITEM), .val (.ref a_ENDPOINTS), .val (.int (2 : Int32)), .val (.int (2 : Int32)), .unset, .unset] [])) _
        refine XS.aload X29.here hx rfl (hb hby at_48) rfl rfl ?_
        show Steps p.tables e below (T29.setTop (mkF m 50 #[.val (.int u0), .val (.int u1), .val (.ref a_UPSTREAM), .val (.ref a_ITEM), .val (.ref a_ENDPOINTS), .val (.int (2 : Int32)), .val (.int (2 : Int32)), .unset, .unset] [(.ref a_ENDPOINTS)])) _
        refine XS.iconst X29.here hx rfl (hb hby at_50) ?_
        show Steps p.tables e below (T29.setTop (mkF m 51 #[.val (.int u0), .val (.int u1), .val (.ref a_UPSTREAM), .val (.ref a_ITEM), .val (.ref a_ENDPOINTS), .val (.int (2 : Int32)), .val (.int (2 : Int32)), .unset, .unset] [(.int (0 : Int32)), (.ref a_ENDPOINTS)])) _
        refine st30.trans ?_
        show Steps p.tables e below (T30.setTop (mkF m 56 #[.val (.int u0), .val (.int u1), .val (.ref a_UPSTREAM), .val (.ref a_ITEM), .val (.ref a_ENDPOINTS), .val (.int (2 : Int32)), .val (.int (2 : Int32)), .unset, .unset] [(.ref a_LIST)])) _
        refine XS.aloadN X30.here hx rfl (hb hby at_56) rfl rfl ?_
        show Steps p.tables e below (T30.setTop (mkF m 57 #[.val (.int u0), .val (.int u1), .val (.ref a_UPSTREAM), .val (.ref a_ITEM), .val (.ref a_ENDPOINTS), .val (.int (2 : Int32)), .val (.int (2 : Int32)), .unset, .unset] [(.ref a_ITEM), (.ref a_LIST)])) _
        refine Jvm.RoadKit.acmp (g := (mkF m 57 #[.val (.int u0), .val (.int u1), .val (.ref a_UPSTREAM), .val (.ref a_ITEM), .val (.ref a_ENDPOINTS), .val (.int (2 : Int32)), .val (.int (2 : Int32)), .unset, .unset] [(.ref a_ITEM), (.ref a_LIST)])) X30 hx rfl rfl rfl (pc0 := 57) (pc' := 60) (same := false) rfl (hb hby at_57) rfl (decide_eq_false fun q => ne_LIST_ITEM (Value.ref.inj q)) (by decide) (by decide) ?_
        show Steps p.tables e below (T30.setTop (mkF m 60 #[.val (.int u0), .val (.int u1), .val (.ref a_UPSTREAM), .val (.ref a_ITEM), .val (.ref a_ENDPOINTS), .val (.int (2 : Int32)), .val (.int (2 : Int32)), .unset, .unset] [])) _
        refine XS.iload X30.here hx rfl (hb hby at_60) rfl ?_
        show Steps p.tables e below (T30.setTop (mkF m 62 #[.val (.int u0), .val (.int u1), .val (.ref a_UPSTREAM), .val (.ref a_ITEM), .val (.ref a_ENDPOINTS), .val (.int (2 : Int32)), .val (.int (2 : Int32)), .unset, .unset] [(.int (2 : Int32))])) _
        refine XS.iconst X30.here hx rfl (hb hby at_62) ?_
        show Steps p.tables e below (T30.setTop (mkF m 63 #[.val (.int u0), .val (.int u1), .val (.ref a_UPSTREAM), .val (.ref a_ITEM), .val (.ref a_ENDPOINTS), .val (.int (2 : Int32)), .val (.int (2 : Int32)), .unset, .unset] [(.int (1 : Int32)), (.int (2 : Int32))])) _
        refine XS.icmpNo X30.here hx rfl (hb hby at_63) rfl (tlt (by decide)).2.2.2 ?_
        show Steps p.tables e below (T30.setTop (mkF m 66 #[.val (.int u0), .val (.int u1), .val (.ref a_UPSTREAM), .val (.ref a_ITEM), .val (.ref a_ENDPOINTS), .val (.int (2 : Int32)), .val (.int (2 : Int32)), .unset, .unset] [])) _
        refine XS.aload X30.here hx rfl (hb hby at_66) rfl rfl ?_
        show Steps p.tables e below (T30.setTop (mkF m 68 #[.val (.int u0), .val (.int u1), .val (.ref a_UPSTREAM), .val (.ref a_ITEM), .val (.ref a_ENDPOINTS), .val (.int (2 : Int32)), .val (.int (2 : Int32)), .unset, .unset] [(.ref a_ENDPOINTS)])) _
        refine XS.iconst X30.here hx rfl (hb hby at_68) ?_
        show Steps p.tables e below (T30.setTop (mkF m 69 #[.val (.int u0), .val (.int u1), .val (.ref a_UPSTREAM), .val (.ref a_ITEM), .val (.ref a_ENDPOINTS), .val (.int (2 : Int32)), .val (.int (2 : Int32)), .unset, .unset] [(.int (1 : Int32)), (.ref a_ENDPOINTS)])) _
        refine st31.trans ?_
        show Steps p.tables e below (T31.setTop (mkF m 74 #[.val (.int u0), .val (.int u1), .val (.ref a_UPSTREAM), .val (.ref a_ITEM), .val (.ref a_ENDPOINTS), .val (.int (2 : Int32)), .val (.int (2 : Int32)), .unset, .unset] [(.ref a_ITEM)])) _
        refine XS.aloadN X31.here hx rfl (hb hby at_74) rfl rfl ?_
        show Steps p.tables e below (T31.setTop (mkF m 75 #[.val (.int u0), .val (.int u1), .val (.ref a_UPSTREAM), .val (.ref a_ITEM), .val (.ref a_ENDPOINTS), .val (.int (2 : Int32)), .val (.int (2 : Int32)), .unset, .unset] [(.ref a_ITEM), (.ref a_ITEM)])) _
        refine Jvm.RoadKit.acmp (g := (mkF m 75 #[.val (.int u0), .val (.int u1), .val (.ref a_UPSTREAM), .val (.ref a_ITEM), .val (.ref a_ENDPOINTS), .val (.int (2 : Int32)), .val (.int (2 : Int32)), .unset, .unset] [(.ref a_ITEM), (.ref a_ITEM)])) X31 hx rfl rfl rfl (pc0 := 75) (pc' := 78) (same := true) rfl (hb hby at_75) rfl (decide_eq_true rfl) (by decide) (by decide) ?_
        show Steps p.tables e below (T31.setTop (mkF m 78 #[.val (.int u0), .val (.int u1), .val (.ref a_UPSTREAM), .val (.ref a_ITEM), .val (.ref a_ENDPOINTS), .val (.int (2 : Int32)), .val (.int (2 : Int32)), .unset, .unset] [])) _
        refine XS.iconst X31.here hx rfl (hb hby at_78) ?_
        show Steps p.tables e below (T31.setTop (mkF m 79 #[.val (.int u0), .val (.int u1), .val (.ref a_UPSTREAM), .val (.ref a_ITEM), .val (.ref a_ENDPOINTS), .val (.int (2 : Int32)), .val (.int (2 : Int32)), .unset, .unset] [(.int (1 : Int32))])) _
        refine XS.goto X31.here hx rfl (pc0 := 79) (pc' := 83) rfl (hb hby at_79) (by decide) (by decide) ?_
        show Steps p.tables e below (T31.setTop (mkF m 83 #[.val (.int u0), .val (.int u1), .val (.ref a_UPSTREAM), .val (.ref a_ITEM), .val (.ref a_ENDPOINTS), .val (.int (2 : Int32)), .val (.int (2 : Int32)), .unset, .unset] [(.int (1 : Int32))])) _
        refine XS.istore X31.here hx rfl (hb hby at_83) rfl (l' := #[.val (.int u0), .val (.int u1), .val (.ref a_UPSTREAM), .val (.ref a_ITEM), .val (.ref a_ENDPOINTS), .val (.int (2 : Int32)), .val (.int (2 : Int32)), .val (.int (1 : Int32)), .unset]) rfl ?_
        show Steps p.tables e below (T31.setTop (mkF m 85 #[.val (.int u0), .val (.int u1), .val (.ref a_UPSTREAM), .val (.ref a_ITEM), .val (.ref a_ENDPOINTS), .val (.int (2 : Int32)), .val (.int (2 : Int32)), .val (.int (1 : Int32)), .unset] [])) _
        refine XS.aloadN X31.here hx rfl (hb hby at_85) rfl rfl ?_
        show Steps p.tables e below (T31.setTop (mkF m 86 #[.val (.int u0), .val (.int u1), .val (.ref a_UPSTREAM), .val (.ref a_ITEM), .val (.ref a_ENDPOINTS), .val (.int (2 : Int32)), .val (.int (2 : Int32)), .val (.int (1 : Int32)), .unset] [(.ref a_ITEM)])) _
        refine st32 _ ?_
        show Steps p.tables e below (T32.setTop (mkF m 89 #[.val (.int u0), .val (.int u1), .val (.ref a_UPSTREAM), .val (.ref a_ITEM), .val (.ref a_ENDPOINTS), .val (.int (2 : Int32)), .val (.int (2 : Int32)), .val (.int (1 : Int32)), .unset] [(.ref a_UPSTREAM), (.ref a_ITEM)])) _
        refine Jvm.RoadKit.acmp (g := (mkF m 89 #[.val (.int u0), .val (.int u1), .val (.ref a_UPSTREAM), .val (.ref a_ITEM), .val (.ref a_ENDPOINTS), .val (.int (2 : Int32)), .val (.int (2 : Int32)), .val (.int (1 : Int32)), .unset] [(.ref a_UPSTREAM), (.ref a_ITEM)])) X32 hx rfl rfl rfl (pc0 := 89) (pc' := 92) (same := false) rfl (hb hby at_89) rfl (decide_eq_false fun q => (Ne.symm ne_UPSTREAM_ITEM) (Value.ref.inj q)) (by decide) (by decide) ?_
        show Steps p.tables e below (T32.setTop (mkF m 92 #[.val (.int u0), .val (.int u1), .val (.ref a_UPSTREAM), .val (.ref a_ITEM), .val (.ref a_ENDPOINTS), .val (.int (2 : Int32)), .val (.int (2 : Int32)), .val (.int (1 : Int32)), .unset] [])) _
        refine XS.aloadN X32.here hx rfl (hb hby at_92) rfl rfl ?_
        show Steps p.tables e below (T32.setTop (mkF m 93 #[.val (.int u0), .val (.int u1), .val (.ref a_UPSTREAM), .val (.ref a_ITEM), .val (.ref a_ENDPOINTS), .val (.int (2 : Int32)), .val (.int (2 : Int32)), .val (.int (1 : Int32)), .unset] [(.ref a_UPSTREAM)])) _
        refine st33 _ ?_
        show Steps p.tables e below (T33.setTop (mkF m 96 #[.val (.int u0), .val (.int u1), .val (.ref a_UPSTREAM), .val (.ref a_ITEM), .val (.ref a_ENDPOINTS), .val (.int (2 : Int32)), .val (.int (2 : Int32)), .val (.int (1 : Int32)), .unset] [(.ref a_UPSTREAM), (.ref a_UPSTREAM)])) _
        refine Jvm.RoadKit.acmp (g := (mkF m 96 #[.val (.int u0), .val (.int u1), .val (.ref a_UPSTREAM), .val (.ref a_ITEM), .val (.ref a_ENDPOINTS), .val (.int (2 : Int32)), .val (.int (2 : Int32)), .val (.int (1 : Int32)), .unset] [(.ref a_UPSTREAM), (.ref a_UPSTREAM)])) X33 hx rfl rfl rfl (pc0 := 96) (pc' := 104) (same := true) rfl (hb hby at_96) rfl (decide_eq_true rfl) (by decide) (by decide) ?_
        show Steps p.tables e below (T33.setTop (mkF m 104 #[.val (.int u0), .val (.int u1), .val (.ref a_UPSTREAM), .val (.ref a_ITEM), .val (.ref a_ENDPOINTS), .val (.int (2 : Int32)), .val (.int (2 : Int32)), .val (.int (1 : Int32)), .unset] [])) _
        refine XS.iconst X33.here hx rfl (hb hby at_104) ?_
        show Steps p.tables e below (T33.setTop (mkF m 105 #[.val (.int u0), .val (.int u1), .val (.ref a_UPSTREAM), .val (.ref a_ITEM), .val (.ref a_ENDPOINTS), .val (.int (2 : Int32)), .val (.int (2 : Int32)), .val (.int (1 : Int32)), .unset] [(.int (1 : Int32))])) _
        refine XS.goto X33.here hx rfl (pc0 := 105) (pc' := 109) rfl (hb hby at_105) (by decide) (by decide) ?_
        show Steps p.tables e below (T33.setTop (mkF m 109 #[.val (.int u0), .val (.int u1), .val (.ref a_UPSTREAM), .val (.ref a_ITEM), .val (.ref a_ENDPOINTS), .val (.int (2 : Int32)), .val (.int (2 : Int32)), .val (.int (1 : Int32)), .unset] [(.int (1 : Int32))])) _
        refine XS.istore X33.here hx rfl (hb hby at_109) rfl (l' := #[.val (.int u0), .val (.int u1), .val (.ref a_UPSTREAM), .val (.ref a_ITEM), .val (.ref a_ENDPOINTS), .val (.int (2 : Int32)), .val (.int (2 : Int32)), .val (.int (1 : Int32)), .val (.int (1 : Int32))]) rfl ?_
        show Steps p.tables e below (T33.setTop (mkF m 111 #[.val (.int u0), .val (.int u1), .val (.ref a_UPSTREAM), .val (.ref a_ITEM), .val (.ref a_ENDPOINTS), .val (.int (2 : Int32)), .val (.int (2 : Int32)), .val (.int (1 : Int32)), .val (.int (1 : Int32))] [])) _
        refine XS.iload X33.here hx rfl (hb hby at_111) rfl ?_
        show Steps p.tables e below (T33.setTop (mkF m 113 #[.val (.int u0), .val (.int u1), .val (.ref a_UPSTREAM), .val (.ref a_ITEM), .val (.ref a_ENDPOINTS), .val (.int (2 : Int32)), .val (.int (2 : Int32)), .val (.int (1 : Int32)), .val (.int (1 : Int32))] [(.int (1 : Int32))])) _
        refine XS.iload X33.here hx rfl (hb hby at_113) rfl ?_
        show Steps p.tables e below (T33.setTop (mkF m 115 #[.val (.int u0), .val (.int u1), .val (.ref a_UPSTREAM), .val (.ref a_ITEM), .val (.ref a_ENDPOINTS), .val (.int (2 : Int32)), .val (.int (2 : Int32)), .val (.int (1 : Int32)), .val (.int (1 : Int32))] [(.int (1 : Int32)), (.int (1 : Int32))])) _
        refine XS.icmpYes X33.here hx rfl (pc0 := 115) (pc' := 120) rfl (hb hby at_115) rfl (teq (by decide)).1 (by decide) (by decide) ?_
        show Steps p.tables e below (T33.setTop (mkF m 120 #[.val (.int u0), .val (.int u1), .val (.ref a_UPSTREAM), .val (.ref a_ITEM), .val (.ref a_ENDPOINTS), .val (.int (2 : Int32)), .val (.int (2 : Int32)), .val (.int (1 : Int32)), .val (.int (1 : Int32))] [])) _
        refine XS.iload X33.here hx rfl (hb hby at_120) rfl ?_
        show Steps p.tables e below (T33.setTop (mkF m 122 #[.val (.int u0), .val (.int u1), .val (.ref a_UPSTREAM), .val (.ref a_ITEM), .val (.ref a_ENDPOINTS), .val (.int (2 : Int32)), .val (.int (2 : Int32)), .val (.int (1 : Int32)), .val (.int (1 : Int32))] [(.int (2 : Int32))])) _
        refine XS.iconst X33.here hx rfl (hb hby at_122) ?_
        show Steps p.tables e below (T33.setTop (mkF m 123 #[.val (.int u0), .val (.int u1), .val (.ref a_UPSTREAM), .val (.ref a_ITEM), .val (.ref a_ENDPOINTS), .val (.int (2 : Int32)), .val (.int (2 : Int32)), .val (.int (1 : Int32)), .val (.int (1 : Int32))] [(.int (2 : Int32)), (.int (2 : Int32))])) _
        refine XS.icmpNo X33.here hx rfl (hb hby at_123) rfl (teq (by decide)).2 ?_
        show Steps p.tables e below (T33.setTop (mkF m 126 #[.val (.int u0), .val (.int u1), .val (.ref a_UPSTREAM), .val (.ref a_ITEM), .val (.ref a_ENDPOINTS), .val (.int (2 : Int32)), .val (.int (2 : Int32)), .val (.int (1 : Int32)), .val (.int (1 : Int32))] [])) _
        refine XS.aload X33.here hx rfl (hb hby at_126) rfl rfl ?_
        show Steps p.tables e below (T33.setTop (mkF m 128 #[.val (.int u0), .val (.int u1), .val (.ref a_UPSTREAM), .val (.ref a_ITEM), .val (.ref a_ENDPOINTS), .val (.int (2 : Int32)), .val (.int (2 : Int32)), .val (.int (1 : Int32)), .val (.int (1 : Int32))] [(.ref a_ENDPOINTS)])) _
        refine XS.iconst X33.here hx rfl (hb hby at_128) ?_
        show Steps p.tables e below (T33.setTop (mkF m 129 #[.val (.int u0), .val (.int u1), .val (.ref a_UPSTREAM), .val (.ref a_ITEM), .val (.ref a_ENDPOINTS), .val (.int (2 : Int32)), .val (.int (2 : Int32)), .val (.int (1 : Int32)), .val (.int (1 : Int32))] [(.int (0 : Int32)), (.ref a_ENDPOINTS)])) _
        refine st34.trans ?_
        show Steps p.tables e below (T34.setTop (mkF m 134 #[.val (.int u0), .val (.int u1), .val (.ref a_UPSTREAM), .val (.ref a_ITEM), .val (.ref a_ENDPOINTS), .val (.int (2 : Int32)), .val (.int (2 : Int32)), .val (.int (1 : Int32)), .val (.int (1 : Int32))] [(.ref a_LIST)])) _
        refine st35 _ ?_
        show Steps p.tables e below (T35.setTop (mkF m 137 #[.val (.int u0), .val (.int u1), .val (.ref a_UPSTREAM), .val (.ref a_ITEM), .val (.ref a_ENDPOINTS), .val (.int (2 : Int32)), .val (.int (2 : Int32)), .val (.int (1 : Int32)), .val (.int (1 : Int32))] [(.ref a_LIST), (.ref a_LIST)])) _
        refine Jvm.RoadKit.acmp (g := (mkF m 137 #[.val (.int u0), .val (.int u1), .val (.ref a_UPSTREAM), .val (.ref a_ITEM), .val (.ref a_ENDPOINTS), .val (.int (2 : Int32)), .val (.int (2 : Int32)), .val (.int (1 : Int32)), .val (.int (1 : Int32))] [(.ref a_LIST), (.ref a_LIST)])) X35 hx rfl rfl rfl (pc0 := 137) (pc' := 140) (same := true) rfl (hb hby at_137) rfl (decide_eq_true rfl) (by decide) (by decide) ?_
        show Steps p.tables e below (T35.setTop (mkF m 140 #[.val (.int u0), .val (.int u1), .val (.ref a_UPSTREAM), .val (.ref a_ITEM), .val (.ref a_ENDPOINTS), .val (.int (2 : Int32)), .val (.int (2 : Int32)), .val (.int (1 : Int32)), .val (.int (1 : Int32))] [])) _
        refine XS.aload X35.here hx rfl (hb hby at_140) rfl rfl ?_
        show Steps p.tables e below (T35.setTop (mkF m 142 #[.val (.int u0), .val (.int u1), .val (.ref a_UPSTREAM), .val (.ref a_ITEM), .val (.ref a_ENDPOINTS), .val (.int (2 : Int32)), .val (.int (2 : Int32)), .val (.int (1 : Int32)), .val (.int (1 : Int32))] [(.ref a_ENDPOINTS)])) _
        refine XS.iconst X35.here hx rfl (hb hby at_142) ?_
        show Steps p.tables e below (T35.setTop (mkF m 143 #[.val (.int u0), .val (.int u1), .val (.ref a_UPSTREAM), .val (.ref a_ITEM), .val (.ref a_ENDPOINTS), .val (.int (2 : Int32)), .val (.int (2 : Int32)), .val (.int (1 : Int32)), .val (.int (1 : Int32))] [(.int (1 : Int32)), (.ref a_ENDPOINTS)])) _
        refine st36.trans ?_
        show Steps p.tables e below (T36.setTop (mkF m 148 #[.val (.int u0), .val (.int u1), .val (.ref a_UPSTREAM), .val (.ref a_ITEM), .val (.ref a_ENDPOINTS), .val (.int (2 : Int32)), .val (.int (2 : Int32)), .val (.int (1 : Int32)), .val (.int (1 : Int32))] [(.ref a_ITEM)])) _
        refine st37 _ ?_
        show Steps p.tables e below (T37.setTop (mkF m 151 #[.val (.int u0), .val (.int u1), .val (.ref a_UPSTREAM), .val (.ref a_ITEM), .val (.ref a_ENDPOINTS), .val (.int (2 : Int32)), .val (.int (2 : Int32)), .val (.int (1 : Int32)), .val (.int (1 : Int32))] [(.ref a_ITEM), (.ref a_ITEM)])) _
        refine Jvm.RoadKit.acmp (g := (mkF m 151 #[.val (.int u0), .val (.int u1), .val (.ref a_UPSTREAM), .val (.ref a_ITEM), .val (.ref a_ENDPOINTS), .val (.int (2 : Int32)), .val (.int (2 : Int32)), .val (.int (1 : Int32)), .val (.int (1 : Int32))] [(.ref a_ITEM), (.ref a_ITEM)])) X37 hx rfl rfl rfl (pc0 := 151) (pc' := 156) (same := true) rfl (hb hby at_151) rfl (decide_eq_true rfl) (by decide) (by decide) ?_
        show Steps p.tables e below (T37.setTop (mkF m 156 #[.val (.int u0), .val (.int u1), .val (.ref a_UPSTREAM), .val (.ref a_ITEM), .val (.ref a_ENDPOINTS), .val (.int (2 : Int32)), .val (.int (2 : Int32)), .val (.int (1 : Int32)), .val (.int (1 : Int32))] [])) _
        refine XS.iconst X37.here hx rfl (hb hby at_156) ?_
        show Steps p.tables e below (T37.setTop (mkF m 157 #[.val (.int u0), .val (.int u1), .val (.ref a_UPSTREAM), .val (.ref a_ITEM), .val (.ref a_ENDPOINTS), .val (.int (2 : Int32)), .val (.int (2 : Int32)), .val (.int (1 : Int32)), .val (.int (1 : Int32))] [(.int (1 : Int32))])) _
        exact retN X37 hx (t := .boolean) Bd.returns (by simp) (hb hby at_157) hr
      · show Q0 Z u0 u1 a_UPSTREAM a_LIST a_ITEM a_ENDPOINTS a_EMPTY h0 n0 _ T37.heap _
        rw [e37]
        exact ⟨rfl, N36⟩
  · rcases own_pick u1 a_UPSTREAM a_LIST a_ITEM with hp1 | hp1 | hp1
    · obtain ⟨_, _, ⟨T38, L38, k38, n38⟩, -, X38, ⟨Lc38, hQ38, l38, y38, z38⟩, st38⟩ := Jvm.LawKit.callS X0 hx (y := (⟨"com/example/backfill/backfill/engine/LaneEndpointsPinLaw", "pick", "(I)Lcom/example/backfill/backfill/engine/Lane;"⟩ : MethodName)) hown (mvT hZ (hw _ (List.mem_of_getElem? (i := 0) rfl))) (mvT hZ (hw _ (List.mem_of_getElem? (i := 1) rfl))) (mvT hZ (hw _ (List.mem_of_getElem? (i := 2) rfl))) (mvT hZ (hw _ (List.mem_of_getElem? (i := 3) rfl))) (by decide) (backOf (W := 0) (rm1 l Z a0 hw [] u0 a_UPSTREAM a_LIST a_ITEM h0 n0 Z0 O0 S_UPSTREAM S_LIST S_ITEM) hZ (hw _ (List.mem_of_getElem? (i := 3) rfl)) (hw _ (List.mem_of_getElem? (i := 2) rfl)) (by decide) (by decide)) (g := (mkF m 1 #[.val (.int u0), .val (.int u1), .unset, .unset, .unset, .unset, .unset, .unset, .unset] [(.int u0)])) rfl (by rw [hml]; rfl) (argsL := [(.int u0)]) (rest := []) (lenOf pd_3 rfl) rfl (by show 2 * 0 + _ ≤ _; exact Nat.le_of_eq rfl) (hb hby at_1) (fun _ _ => ⟨rfl, e0, (by decide : 0 + 0 ≤ _), (by decide : 0 + 0 ≤ _)⟩)
      dsimp only [Pt.U, Pt.locs, Pt.cells, Pt.slots] at X38 l38 y38 z38 st38 hQ38
      subst l38 y38 z38
      obtain ⟨hv38, N38q, e38⟩ := hQ38
      rw [hp0] at hv38
      subst hv38
      have N38 := Fr.app N0 N38q
      obtain ⟨_, _, ⟨T39, L39, k39, n39⟩, -, X39, ⟨Lc39, hQ39, l39, y39, z39⟩, st39⟩ := Jvm.LawKit.callS X38 hx (y := (⟨"com/example/backfill/backfill/engine/LaneEndpointsPinLaw", "pick", "(I)Lcom/example/backfill/backfill/engine/Lane;"⟩ : MethodName)) hown (mvT hZ (hw _ (List.mem_of_getElem? (i := 0) rfl))) (mvT hZ (hw _ (List.mem_of_getElem? (i := 1) rfl))) (mvT hZ (hw _ (List.mem_of_getElem? (i := 2) rfl))) (mvT hZ (hw _ (List.mem_of_getElem? (i := 3) rfl))) (by decide) (backOf (W := 0) (rm1 l Z a0 hw [] u1 a_UPSTREAM a_LIST a_ITEM h0 n0 Z0 O0 S_UPSTREAM S_LIST S_ITEM) hZ (hw _ (List.mem_of_getElem? (i := 3) rfl)) (hw _ (List.mem_of_getElem? (i := 2) rfl)) (by decide) (by decide)) (g := (mkF m 6 #[.val (.int u0), .val (.int u1), .val (.ref a_LIST), .unset, .unset, .unset, .unset, .unset, .unset] [(.int u1)])) rfl (by rw [hml]; rfl) (argsL := [(.int u1)]) (rest := []) (lenOf pd_3 rfl) rfl (by show 2 * 0 + _ ≤ _; exact Nat.le_of_eq rfl) (hb hby at_6) (fun _ _ => ⟨rfl, e38, (by decide : 0 + 0 ≤ _), (by decide : 0 + 0 ≤ _)⟩)
      dsimp only [Pt.U, Pt.locs, Pt.cells, Pt.slots] at X39 l39 y39 z39 st39 hQ39
      subst l39 y39 z39
      obtain ⟨hv39, N39q, e39⟩ := hQ39
      rw [hp1] at hv39
      subst hv39
      have N39 := Fr.app N38 N39q
      obtain ⟨cq40, kq40, q40a, q40b, q40c⟩ := isOf hZ e39 (E_a_LIST.ext O0.2)
      obtain ⟨_, _, ⟨T40, L40, k40, n40⟩, -, X40, ⟨Lc40, hQ40, l40, y40, z40⟩, st40⟩ := X39.virtualBack hx (y := (⟨"com/example/backfill/backfill/engine/Lane", "endpoints", "()Ljava/util/List;"⟩ : MethodName)) (z := (⟨"com/example/backfill/backfill/engine/Lane", "endpoints", "()Ljava/util/List;"⟩ : MethodName)) hown (mvT hZ (hw _ (List.mem_of_getElem? (i := 8) rfl))) (mvT hZ (hw _ (List.mem_of_getElem? (i := 9) rfl))) (notFace_of_selects (args := #[]) (mvT hZ (hw _ (List.mem_of_getElem? (i := 11) rfl)))) (mvT hZ (hw _ (List.mem_of_getElem? (i := 11) rfl))) (mvT hZ (hw _ (List.mem_of_getElem? (i := 10) rfl))) (by decide) (backOf (W := 0) (rm2N l Z a0 hw [] a_LIST a_UPSTREAM a_EMPTY h0 n0 Z0 O0 S_UPSTREAM S_EMPTY (Ne.symm ne_UPSTREAM_LIST)) hZ (hw _ (List.mem_of_getElem? (i := 12) rfl)) (hw _ (List.mem_of_getElem? (i := 6) rfl)) (by decide) (by decide)) q40a q40c (g := (mkF m 11 #[.val (.int u0), .val (.int u1), .val (.ref a_LIST), .val (.ref a_UPSTREAM), .unset, .unset, .unset, .unset, .unset] [(.ref a_LIST)])) rfl (by rw [hml]; rfl) (Steps.refl _) (argsL := []) (rest := []) (lenOf pd_1 rfl) rfl (by show 2 * 0 + _ ≤ _; exact Nat.le_of_eq rfl) (hb hby at_11) (fun _ _ => ⟨rfl, e39, (by decide : 0 + 1 ≤ _), (by decide : 0 + 2 ≤ _)⟩)
      dsimp only [Pt.U, Pt.locs, Pt.cells, Pt.slots] at X40 l40 y40 z40 st40 hQ40
      subst l40 y40 z40
      obtain ⟨hv40, N40q, K40, A40, F40a, F40b⟩ := hQ40
      obtain ⟨b40, g40⟩ : ∃ z, z = h0.size := ⟨_, rfl⟩
      rw [← g40] at hv40 A40 F40a F40b
      subst hv40
      have g_b40 : n0 ≤ b40 := Nat.le_trans Z0 (Nat.le_of_eq g40.symm)
      have sz_b40 : h0.size ≤ b40 := Nat.le_trans (Keep.refl h0 []).1 (Nat.le_of_eq g40.symm)
      have N40 := Fr.app N39 N40q
      have Z40 : n0 ≤ T40.heap.size := Nat.le_trans Z0 K40.1
      have KK40 := (Keep.refl h0 []).trans K40 all0
      have O40 := O0.keep K40 all0
      obtain ⟨cq41, kq41, q41a, q41b, q41c⟩ := isOf hZ rfl A40
      obtain ⟨_, _, ⟨T41, L41, k41, n41⟩, -, X41, ⟨Lc41, hQ41, l41, y41, z41⟩, st41⟩ := X40.interfaceBack hx (xi := (⟨"java/util/List", "size", "()I"⟩ : MethodName)) (y := (⟨"java/util/ImmutableCollections$List12", "size", "()I"⟩ : MethodName)) hown (mvT hZ (hw _ (List.mem_of_getElem? (i := 16) rfl))) (mvT hZ (hw _ (List.mem_of_getElem? (i := 17) rfl))) (mvT hZ (hw _ (List.mem_of_getElem? (i := 18) rfl))) (mvT hZ (hw _ (List.mem_of_getElem? (i := 19) rfl))) (mvT hZ (hw _ (List.mem_of_getElem? (i := 20) rfl))) (mvT hZ (hw _ (List.mem_of_getElem? (i := 21) rfl))) (mvT hZ (hw _ (List.mem_of_getElem? (i := 22) rfl))) (mvT hZ (hw _ (List.mem_of_getElem? (i := 23) rfl))) (by decide) (backOf (W := 0) (rm3 l Z a0 hw [] b40 a_EMPTY a_EMPTY T40.heap n0 Z40 O40 S_EMPTY F40b) hZ (hw _ (List.mem_of_getElem? (i := 25) rfl)) (hw _ (List.mem_of_getElem? (i := 24) rfl)) (by decide) (by decide)) q41a q41b q41c (g := (mkF m 18 #[.val (.int u0), .val (.int u1), .val (.ref a_LIST), .val (.ref a_UPSTREAM), .val (.ref b40), .unset, .unset, .unset, .unset] [(.ref b40)])) rfl (by rw [hml]; rfl) (Steps.refl _) (argsL := []) (rest := []) (lenOf pd_0 rfl) rfl (by show 2 * 0 + _ ≤ _; exact Nat.le_of_eq rfl) (hb hby at_18) (fun _ _ => ⟨rfl, rfl, (by decide : 1 + 0 ≤ _), (by decide : 2 + 0 ≤ _)⟩)
      dsimp only [Pt.U, Pt.locs, Pt.cells, Pt.slots] at X41 l41 y41 z41 st41 hQ41
      subst l41 y41 z41
      obtain ⟨hv41, N41q, e41⟩ := hQ41
      rw [show sz12 a_EMPTY a_EMPTY = (1 : Int32) from by simp [sz12]] at hv41
      subst hv41
      have N41 := Fr.app N40 N41q
      obtain ⟨T42, X42, e42, st42⟩ := getS2 X41 hx hZ hown (host := "") (Or.inl (hw _ (List.mem_of_getElem? (i := 5) rfl))) Via.refl e41 (S_UPSTREAM.ext O40.2) (g := (mkF m 26 #[.val (.int u0), .val (.int u1), .val (.ref a_LIST), .val (.ref a_UPSTREAM), .val (.ref b40), .val (.int (1 : Int32)), .unset, .unset, .unset] [(.ref a_LIST)])) rfl (hb hby at_26)
      obtain ⟨cq43, kq43, q43a, q43b, q43c⟩ := isOf hZ e42 A40
      obtain ⟨_, _, ⟨T43, L43, k43, n43⟩, -, X43, ⟨Lc43, hQ43, l43, y43, z43⟩, st43⟩ := X42.interfaceBack hx (xi := (⟨"java/util/List", "get", "(I)Ljava/lang/Object;"⟩ : MethodName)) (y := (⟨"java/util/ImmutableCollections$List12", "get", "(I)Ljava/lang/Object;"⟩ : MethodName)) hown (mvT hZ (hw _ (List.mem_of_getElem? (i := 31) rfl))) (mvT hZ (hw _ (List.mem_of_getElem? (i := 32) rfl))) (mvT hZ (hw _ (List.mem_of_getElem? (i := 33) rfl))) (mvT hZ (hw _ (List.mem_of_getElem? (i := 34) rfl))) (mvT hZ (hw _ (List.mem_of_getElem? (i := 35) rfl))) (mvT hZ (hw _ (List.mem_of_getElem? (i := 36) rfl))) (mvT hZ (hw _ (List.mem_of_getElem? (i := 37) rfl))) (mvT hZ (hw _ (List.mem_of_getElem? (i := 23) rfl))) (by decide) (backOf (W := 0) (rm4a l Z a0 hw [] b40 a_LIST T40.heap n0 Z40 O40 F40a) hZ (hw _ (List.mem_of_getElem? (i := 38) rfl)) (hw _ (List.mem_of_getElem? (i := 24) rfl)) (by decide) (by decide)) q43a q43b q43c (g := (mkF m 51 #[.val (.int u0), .val (.int u1), .val (.ref a_LIST), .val (.ref a_UPSTREAM), .val (.ref b40), .val (.int (1 : Int32)), .val (.int (1 : Int32)), .unset, .unset] [(.int (0 : Int32)), (.ref b40)])) rfl (by rw [hml]; rfl) (Steps.refl _) (argsL := [(.int (0 : Int32))]) (rest := []) (lenOf pd_4 rfl) rfl (by show 2 * 0 + _ ≤ _; exact Nat.le_of_eq rfl) (hb hby at_51) (fun _ _ => ⟨rfl, e42, (by decide : 1 + 0 ≤ _), (by decide : 2 + 0 ≤ _)⟩)
      dsimp only [Pt.U, Pt.locs, Pt.cells, Pt.slots] at X43 l43 y43 z43 st43 hQ43
      subst l43 y43 z43
      obtain ⟨rfl, N43q, e43⟩ := hQ43
      have N43 := Fr.app N41 N43q
      obtain ⟨T44, X44, e44, st44⟩ := getS2 X43 hx hZ hown (host := "") (Or.inl (hw _ (List.mem_of_getElem? (i := 5) rfl))) Via.refl e43 (S_UPSTREAM.ext O40.2) (g := (mkF m 86 #[.val (.int u0), .val (.int u1), .val (.ref a_LIST), .val (.ref a_UPSTREAM), .val (.ref b40), .val (.int (1 : Int32)), .val (.int (1 : Int32)), .val (.int (0 : Int32)), .unset] [(.ref a_UPSTREAM)])) rfl (hb hby at_86)
      obtain ⟨fs, hr, hrun, hended, hW, hsame⟩ := X44.leave (v := some (.int (1 : Int32))) (fun h => by rw [Bd.returns] at h; cases h)
      refine ⟨_, _, pre0 _ ?_, hrun, hended, _, _, rfl, ?_, ⟨_, rfl⟩, hW, hsame.mono (by decide) (by decide)⟩
      · show Steps p.tables e below (s₁.setTop (mkF m 0 #[.val (.int u0), .val (.int u1), .unset, .unset, .unset, .unset, .unset, .unset, .unset] [])) _
        refine XS.iloadN X0.here hx rfl (hb hby at_0) rfl ?_
        show Steps p.tables e below (s₁.setTop (mkF m 1 #[.val (.int u0), .val (.int u1), .unset, .unset, .unset, .unset, .unset, .unset, .unset] [(.int u0)])) _
        refine st38 _ ?_
        show Steps p.tables e below (T38.setTop (mkF m 4 #[.val (.int u0), .val (.int u1), .unset, .unset, .unset, .unset, .unset, .unset, .unset] [(.ref a_LIST)])) _
        refine XS.astoreN X38.here hx rfl (hb hby at_4) rfl rfl (l' := #[.val (.int u0), .val (.int u1), .val (.ref a_LIST), .unset, .unset, .unset, .unset, .unset, .unset]) rfl ?_
        show Steps p.tables e below (T38.setTop (mkF m 5 #[.val (.int u0), .val (.int u1), .val (.ref a_LIST), .unset, .unset, .unset, .unset, .unset, .unset] [])) _
        refine XS.iloadN X38.here hx rfl (hb hby at_5) rfl ?_
        show Steps p.tables e below (T38.setTop (mkF m 6 #[.val (.int u0), .val (.int u1), .val (.ref a_LIST), .unset, .unset, .unset, .unset, .unset, .unset] [(.int u1)])) _
        refine st39 _ ?_
        show Steps p.tables e below (T39.setTop (mkF m 9 #[.val (.int u0), .val (.int u1), .val (.ref a_LIST), .unset, .unset, .unset, .unset, .unset, .unset] [(.ref a_UPSTREAM)])) _
        refine XS.astoreN X39.here hx rfl (hb hby at_9) rfl rfl (l' := #[.val (.int u0), .val (.int u1), .val (.ref a_LIST), .val (.ref a_UPSTREAM), .unset, .unset, .unset, .unset, .unset]) rfl ?_
        show Steps p.tables e below (T39.setTop (mkF m 10 #[.val (.int u0), .val (.int u1), .val (.ref a_LIST), .val (.ref a_UPSTREAM), .unset, .unset, .unset, .unset, .unset] [])) _
        refine XS.aloadN X39.here hx rfl (hb hby at_10) rfl rfl ?_
        show Steps p.tables e below (T39.setTop (mkF m 11 #[.val (.int u0), .val (.int u1), .val (.ref a_LIST), .val (.ref a_UPSTREAM), .unset, .unset, .unset, .unset, .unset] [(.ref a_LIST)])) _
        refine st40.trans ?_
        show Steps p.tables e below (T40.setTop (mkF m 14 #[.val (.int u0), .val (.int u1), .val (.ref a_LIST), .val (.ref a_UPSTREAM), .unset, .unset, .unset, .unset, .unset] [(.ref b40)])) _
        refine XS.astore X40.here hx rfl (hb hby at_14) rfl rfl (l' := #[.val (.int u0), .val (.int u1), .val (.ref a_LIST), .val (.ref a_UPSTREAM), .val (.ref b40), .unset, .unset, .unset, .unset]) rfl ?_
        show Steps p.tables e below (T40.setTop (mkF m 16 #[.val (.int u0), .val (.int u1), .val (.ref a_LIST), .val (.ref a_UPSTREAM), .val (.ref b40), .unset, .unset, .unset, .unset] [])) _
        refine XS.aload X40.here hx rfl (hb hby at_16) rfl rfl ?_
        show Steps p.tables e below (T40.setTop (mkF m 18 #[.val (.int u0), .val (.int u1), .val (.ref a_LIST), .val (.ref a_UPSTREAM), .val (.ref b40), .unset, .unset, .unset, .unset] [(.ref b40)])) _
        refine st41.trans ?_
        show Steps p.tables e below (T41.setTop (mkF m 23 #[.val (.int u0), .val (.int u1), .val (.ref a_LIST), .val (.ref a_UPSTREAM), .val (.ref b40), .unset, .unset, .unset, .unset] [(.int (1 : Int32))])) _
        refine XS.istore X41.here hx rfl (hb hby at_23) rfl (l' := #[.val (.int u0), .val (.int u1), .val (.ref a_LIST), .val (.ref a_UPSTREAM), .val (.ref b40), .val (.int (1 : Int32)), .unset, .unset, .unset]) rfl ?_
        show Steps p.tables e below (T41.setTop (mkF m 25 #[.val (.int u0), .val (.int u1), .val (.ref a_LIST), .val (.ref a_UPSTREAM), .val (.ref b40), .val (.int (1 : Int32)), .unset, .unset, .unset] [])) _
        refine XS.aloadN X41.here hx rfl (hb hby at_25) rfl rfl ?_
        show Steps p.tables e below (T41.setTop (mkF m 26 #[.val (.int u0), .val (.int u1), .val (.ref a_LIST), .val (.ref a_UPSTREAM), .val (.ref b40), .val (.int (1 : Int32)), .unset, .unset, .unset] [(.ref a_LIST)])) _
        refine st42 _ ?_
        show Steps p.tables e below (T42.setTop (mkF m 29 #[.val (.int u0), .val (.int u1), .val (.ref a_LIST), .val (.ref a_UPSTREAM), .val (.ref b40), .val (.int (1 : Int32)), .unset, .unset, .unset] [(.ref a_UPSTREAM), (.ref a_LIST)])) _
        refine Jvm.RoadKit.acmp (g := (mkF m 29 #[.val (.int u0), .val (.int u1), .val (.ref a_LIST), .val (.ref a_UPSTREAM), .val (.ref b40), .val (.int (1 : Int32)), .unset, .unset, .unset] [(.ref a_UPSTREAM), (.ref a_LIST)])) X42 hx rfl rfl rfl (pc0 := 29) (pc' := 36) (same := false) rfl (hb hby at_29) rfl (decide_eq_false fun q => (Ne.symm ne_UPSTREAM_LIST) (Value.ref.inj q)) (by decide) (by decide) ?_
        show Steps p.tables e below (T42.setTop (mkF m 36 #[.val (.int u0), .val (.int u1), .val (.ref a_LIST), .val (.ref a_UPSTREAM), .val (.ref b40), .val (.int (1 : Int32)), .unset, .unset, .unset] [])) _
        refine XS.iconst X42.here hx rfl (hb hby at_36) ?_
        show Steps p.tables e below (T42.setTop (mkF m 37 #[.val (.int u0), .val (.int u1), .val (.ref a_LIST), .val (.ref a_UPSTREAM), .val (.ref b40), .val (.int (1 : Int32)), .unset, .unset, .unset] [(.int (1 : Int32))])) _
        refine XS.istore X42.here hx rfl (hb hby at_37) rfl (l' := #[.val (.int u0), .val (.int u1), .val (.ref a_LIST), .val (.ref a_UPSTREAM), .val (.ref b40), .val (.int (1 : Int32)), .val (.int (1 : Int32)), .unset, .unset]) rfl ?_
        show Steps p.tables e below (T42.setTop (mkF m 39 #[.val (.int u0), .val (.int u1), .val (.ref a_LIST), .val (.ref a_UPSTREAM), .val (.ref b40), .val (.int (1 : Int32)), .val (.int (1 : Int32)), .unset, .unset] [])) _
        refine XS.iload X42.here hx rfl (hb hby at_39) rfl ?_
        show Steps p.tables e below (T42.setTop (mkF m 41 #[.val (.int u0), .val (.int u1), .val (.ref a_LIST), .val (.ref a_UPSTREAM), .val (.ref b40), .val (.int (1 : Int32)), .val (.int (1 : Int32)), .unset, .unset] [(.int (1 : Int32))])) _
        refine XS.iload X42.here hx rfl (hb hby at_41) rfl ?_
        show Steps p.tables e below (T42.setTop (mkF m 43 #[.val (.int u0), .val (.int u1), .val (.ref a_LIST), .val (.ref a_UPSTREAM), .val (.ref b40), .val (.int (1 : Int32)), .val (.int (1 : Int32)), .unset, .unset] [(.int (1 : Int32)), (.int (1 : Int32))])) _
        refine XS.icmpYes X42.here hx rfl (pc0 := 43) (pc' := 48) rfl (hb hby at_43) rfl (teq (by decide)).1 (by decide) (by decide) ?_
        show Steps p.tables e below (T42.setTop (mkF m 48 #[.val (.int u0), .val (.int u1), .val (.ref a_LIST), .val (.ref a_UPSTREAM), .val (.ref b40), .val (.int (1 : Int32)), .val (.int (1 : Int32)), .unset, .unset] [])) _
        refine XS.aload X42.here hx rfl (hb hby at_48) rfl rfl ?_
        show Steps p.tables e below (T42.setTop (mkF m 50 #[.val (.int u0), .val (.int u1), .val (.ref a_LIST), .val (.ref a_UPSTREAM), .val (.ref b40), .val (.int (1 : Int32)), .val (.int (1 : Int32)), .unset, .unset] [(.ref b40)])) _
        refine XS.iconst X42.here hx rfl (hb hby at_50) ?_
        show Steps p.tables e below (T42.setTop (mkF m 51 #[.val (.int u0), .val (.int u1), .val (.ref a_LIST), .val (.ref a_UPSTREAM), .val (.ref b40), .val (.int (1 : Int32)), .val (.int (1 : Int32)), .unset, .unset] [(.int (0 : Int32)), (.ref b40)])) _
        refine st43.trans ?_
        show Steps p.tables e below (T43.setTop (mkF m 56 #[.val (.int u0), .val (.int u1), .val (.ref a_LIST), .val (.ref a_UPSTREAM), .val (.ref b40), .val (.int (1 : Int32)), .val (.int (1 : Int32)), .unset, .unset] [(.ref a_LIST)])) _
        refine XS.aloadN X43.here hx rfl (hb hby at_56) rfl rfl ?_
        show Steps p.tables e below (T43.setTop (mkF m 57 #[.val (.int u0), .val (.int u1), .val (.ref a_LIST), .val (.ref a_UPSTREAM), .val (.ref b40), .val (.int (1 : Int32)), .val (.int (1 : Int32)), .unset, .unset] [(.ref a_UPSTREAM), (.ref a_LIST)])) _
        refine Jvm.RoadKit.acmp (g := (mkF m 57 #[.val (.int u0), .val (.int u1), .val (.ref a_LIST), .val (.ref a_UPSTREAM), .val (.ref b40), .val (.int (1 : Int32)), .val (.int (1 : Int32)), .unset, .unset] [(.ref a_UPSTREAM), (.ref a_LIST)])) X43 hx rfl rfl rfl (pc0 := 57) (pc' := 60) (same := false) rfl (hb hby at_57) rfl (decide_eq_false fun q => (Ne.symm ne_UPSTREAM_LIST) (Value.ref.inj q)) (by decide) (by decide) ?_
        show Steps p.tables e below (T43.setTop (mkF m 60 #[.val (.int u0), .val (.int u1), .val (.ref a_LIST), .val (.ref a_UPSTREAM), .val (.ref b40), .val (.int (1 : Int32)), .val (.int (1 : Int32)), .unset, .unset] [])) _
        refine XS.iload X43.here hx rfl (hb hby at_60) rfl ?_
        show Steps p.tables e below (T43.setTop (mkF m 62 #[.val (.int u0), .val (.int u1), .val (.ref a_LIST), .val (.ref a_UPSTREAM), .val (.ref b40), .val (.int (1 : Int32)), .val (.int (1 : Int32)), .unset, .unset] [(.int (1 : Int32))])) _
        refine XS.iconst X43.here hx rfl (hb hby at_62) ?_
        show Steps p.tables e below (T43.setTop (mkF m 63 #[.val (.int u0), .val (.int u1), .val (.ref a_LIST), .val (.ref a_UPSTREAM), .val (.ref b40), .val (.int (1 : Int32)), .val (.int (1 : Int32)), .unset, .unset] [(.int (1 : Int32)), (.int (1 : Int32))])) _
        refine XS.icmpYes X43.here hx rfl (pc0 := 63) (pc' := 82) rfl (hb hby at_63) rfl (flt (by decide)).2.2.2 (by decide) (by decide) ?_
        show Steps p.tables e below (T43.setTop (mkF m 82 #[.val (.int u0), .val (.int u1), .val (.ref a_LIST), .val (.ref a_UPSTREAM), .val (.ref b40), .val (.int (1 : Int32)), .val (.int (1 : Int32)), .unset, .unset] [])) _
        refine XS.iconst X43.here hx rfl (hb hby at_82) ?_
        show Steps p.tables e below (T43.setTop (mkF m 83 #[.val (.int u0), .val (.int u1), .val (.ref a_LIST), .val (.ref a_UPSTREAM), .val (.ref b40), .val (.int (1 : Int32)), .val (.int (1 : Int32)), .unset, .unset] [(.int (0 : Int32))])) _
        refine XS.istore X43.here hx rfl (hb hby at_83) rfl (l' := #[.val (.int u0), .val (.int u1), .val (.ref a_LIST), .val (.ref a_UPSTREAM), .val (.ref b40), .val (.int (1 : Int32)), .val (.int (1 : Int32)), .val (.int (0 : Int32)), .unset]) rfl ?_
        show Steps p.tables e below (T43.setTop (mkF m 85 #[.val (.int u0), .val (.int u1), .val (.ref a_LIST), .val (.ref a_UPSTREAM), .val (.ref b40), .val (.int (1 : Int32)), .val (.int (1 : Int32)), .val (.int (0 : Int32)), .unset] [])) _
        refine XS.aloadN X43.here hx rfl (hb hby at_85) rfl rfl ?_
        show Steps p.tables e below (T43.setTop (mkF m 86 #[.val (.int u0), .val (.int u1), .val (.ref a_LIST), .val (.ref a_UPSTREAM), .val (.ref b40), .val (.int (1 : Int32)), .val (.int (1 : Int32)), .val (.int (0 : Int32)), .unset] [(.ref a_UPSTREAM)])) _
        refine st44 _ ?_
        show Steps p.tables e below (T44.setTop (mkF m 89 #[.val (.int u0), .val (.int u1), .val (.ref a_LIST), .val (.ref a_UPSTREAM), .val (.ref b40), .val (.int (1 : Int32)), .val (.int (1 : Int32)), .val (.int (0 : Int32)), .unset] [(.ref a_UPSTREAM), (.ref a_UPSTREAM)])) _
        refine Jvm.RoadKit.acmp (g := (mkF m 89 #[.val (.int u0), .val (.int u1), .val (.ref a_LIST), .val (.ref a_UPSTREAM), .val (.ref b40), .val (.int (1 : Int32)), .val (.int (1 : Int32)), .val (.int (0 : Int32)), .unset] [(.ref a_UPSTREAM), (.ref a_UPSTREAM)])) X44 hx rfl rfl rfl (pc0 := 89) (pc' := 108) (same := true) rfl (hb hby at_89) rfl (decide_eq_true rfl) (by decide) (by decide) ?_
        show Steps p.tables e below (T44.setTop (mkF m 108 #[.val (.int u0), .val (.int u1), .val (.ref a_LIST), .val (.ref a_UPSTREAM), .val (.ref b40), .val (.int (1 : Int32)), .val (.int (1 : Int32)), .val (.int (0 : Int32)), .unset] [])) _
        refine XS.iconst X44.here hx rfl (hb hby at_108) ?_
        show Steps p.tables e below (T44.setTop (mkF m 109 #[.val (.int u0), .val (.int u1), .val (.ref a_LIST), .val (.ref a_UPSTREAM), .val (.ref b40), .val (.int (1 : Int32)), .val (.int (1 : Int32)), .val (.int (0 : Int32)), .unset] [(.int (0 : Int32))])) _
        refine XS.istore X44.here hx rfl (hb hby at_109) rfl (l' := #[.val (.int u0), .val (.int u1), .val (.ref a_LIST), .val (.ref a_UPSTREAM), .val (.ref b40), .val (.int (1 : Int32)), .val (.int (1 : Int32)), .val (.int (0 : Int32)), .val (.int (0 : Int32))]) rfl ?_
        show Steps p.tables e below (T44.setTop (mkF m 111 #[.val (.int u0), .val (.int u1), .val (.ref a_LIST), .val (.ref a_UPSTREAM), .val (.ref b40), .val (.int (1 : Int32)), .val (.int (1 : Int32)), .val (.int (0 : Int32)), .val (.int (0 : Int32))] [])) _
        refine XS.iload X44.here hx rfl (hb hby at_111) rfl ?_
        show Steps p.tables e below (T44.setTop (mkF m 113 #[.val (.int u0), .val (.int u1), .val (.ref a_LIST), .val (.ref a_UPSTREAM), .val (.ref b40), .val (.int (1 : Int32)), .val (.int (1 : Int32)), .val (.int (0 : Int32)), .val (.int (0 : Int32))] [(.int (0 : Int32))])) _
        refine XS.iload X44.here hx rfl (hb hby at_113) rfl ?_
        show Steps p.tables e below (T44.setTop (mkF m 115 #[.val (.int u0), .val (.int u1), .val (.ref a_LIST), .val (.ref a_UPSTREAM), .val (.ref b40), .val (.int (1 : Int32)), .val (.int (1 : Int32)), .val (.int (0 : Int32)), .val (.int (0 : Int32))] [(.int (0 : Int32)), (.int (0 : Int32))])) _
        refine XS.icmpYes X44.here hx rfl (pc0 := 115) (pc' := 120) rfl (hb hby at_115) rfl (teq (by decide)).1 (by decide) (by decide) ?_
        show Steps p.tables e below (T44.setTop (mkF m 120 #[.val (.int u0), .val (.int u1), .val (.ref a_LIST), .val (.ref a_UPSTREAM), .val (.ref b40), .val (.int (1 : Int32)), .val (.int (1 : Int32)), .val (.int (0 : Int32)), .val (.int (0 : Int32))] [])) _
        refine XS.iload X44.here hx rfl (hb hby at_120) rfl ?_
        show Steps p.tables e below (T44.setTop (mkF m 122 #[.val (.int u0), .val (.int u1), .val (.ref a_LIST), .val (.ref a_UPSTREAM), .val (.ref b40), .val (.int (1 : Int32)), .val (.int (1 : Int32)), .val (.int (0 : Int32)), .val (.int (0 : Int32))] [(.int (1 : Int32))])) _
        refine XS.iconst X44.here hx rfl (hb hby at_122) ?_
        show Steps p.tables e below (T44.setTop (mkF m 123 #[.val (.int u0), .val (.int u1), .val (.ref a_LIST), .val (.ref a_UPSTREAM), .val (.ref b40), .val (.int (1 : Int32)), .val (.int (1 : Int32)), .val (.int (0 : Int32)), .val (.int (0 : Int32))] [(.int (2 : Int32)), (.int (1 : Int32))])) _
        refine XS.icmpYes X44.here hx rfl (pc0 := 123) (pc' := 156) rfl (hb hby at_123) rfl (feq (by decide)).2 (by decide) (by decide) ?_
        show Steps p.tables e below (T44.setTop (mkF m 156 #[.val (.int u0), .val (.int u1), .val (.ref a_LIST), .val (.ref a_UPSTREAM), .val (.ref b40), .val (.int (1 : Int32)), .val (.int (1 : Int32)), .val (.int (0 : Int32)), .val (.int (0 : Int32))] [])) _
        refine XS.iconst X44.here hx rfl (hb hby at_156) ?_
        show Steps p.tables e below (T44.setTop (mkF m 157 #[.val (.int u0), .val (.int u1), .val (.ref a_LIST), .val (.ref a_UPSTREAM), .val (.ref b40), .val (.int (1 : Int32)), .val (.int (1 : Int32)), .val (.int (0 : Int32)), .val (.int (0 : Int32))] [(.int (1 : Int32))])) _
        exact retN X44 hx (t := .boolean) Bd.returns (by simp) (hb hby at_157) hr
      · show Q0 Z u0 u1 a_UPSTREAM a_LIST a_ITEM a_ENDPOINTS a_EMPTY h0 n0 _ T44.heap _
        rw [e44]
        exact ⟨rfl, N43⟩
    · obtain ⟨_, _, ⟨T45, L45, k45, n45⟩, -, X45, ⟨Lc45, hQ45, l45, y45, z45⟩, st45⟩ := Jvm.LawKit.callS X0 hx (y := (⟨"com/example/backfill/backfill/engine/LaneEndpointsPinLaw", "pick", "(I)Lcom/example/backfill/backfill/engine/Lane;"⟩ : MethodName)) hown (mvT hZ (hw _ (List.mem_of_getElem? (i := 0) rfl))) (mvT hZ (hw _ (List.mem_of_getElem? (i := 1) rfl))) (mvT hZ (hw _ (List.mem_of_getElem? (i := 2) rfl))) (mvT hZ (hw _ (List.mem_of_getElem? (i := 3) rfl))) (by decide) (backOf (W := 0) (rm1 l Z a0 hw [] u0 a_UPSTREAM a_LIST a_ITEM h0 n0 Z0 O0 S_UPSTREAM S_LIST S_ITEM) hZ (hw _ (List.mem_of_getElem? (i := 3) rfl)) (hw _ (List.mem_of_getElem? (i := 2) rfl)) (by decide) (by decide)) (g := (mkF m 1 #[.val (.int u0), .val (.int u1), .unset, .unset, .unset, .unset, .unset, .unset, .unset] [(.int u0)])) rfl (by rw [hml]; rfl) (argsL := [(.int u0)]) (rest := []) (lenOf pd_3 rfl) rfl (by show 2 * 0 + _ ≤ _; exact Nat.le_of_eq rfl) (hb hby at_1) (fun _ _ => ⟨rfl, e0, (by decide : 0 + 0 ≤ _), (by decide : 0 + 0 ≤ _)⟩)
      dsimp only [Pt.U, Pt.locs, Pt.cells, Pt.slots] at X45 l45 y45 z45 st45 hQ45
      subst l45 y45 z45
      obtain ⟨hv45, N45q, e45⟩ := hQ45
      rw [hp0] at hv45
      subst hv45
      have N45 := Fr.app N0 N45q
      obtain ⟨_, _, ⟨T46, L46, k46, n46⟩, -, X46, ⟨Lc46, hQ46, l46, y46, z46⟩, st46⟩ := Jvm.LawKit.callS X45 hx (y := (⟨"com/example/backfill/backfill/engine/LaneEndpointsPinLaw", "pick", "(I)Lcom/example/backfill/backfill/engine/Lane;"⟩ : MethodName)) hown (mvT hZ (hw _ (List.mem_of_getElem? (i := 0) rfl))) (mvT hZ (hw _ (List.mem_of_getElem? (i := 1) rfl))) (mvT hZ (hw _ (List.mem_of_getElem? (i := 2) rfl))) (mvT hZ (hw _ (List.mem_of_getElem? (i := 3) rfl))) (by decide) (backOf (W := 0) (rm1 l Z a0 hw [] u1 a_UPSTREAM a_LIST a_ITEM h0 n0 Z0 O0 S_UPSTREAM S_LIST S_ITEM) hZ (hw _ (List.mem_of_getElem? (i := 3) rfl)) (hw _ (List.mem_of_getElem? (i := 2) rfl)) (by decide) (by decide)) (g := (mkF m 6 #[.val (.int u0), .val (.int u1), .val (.ref a_LIST), .unset, .unset, .unset, .unset, .unset, .unset] [(.int u1)])) rfl (by rw [hml]; rfl) (argsL := [(.int u1)]) (rest := []) (lenOf pd_3 rfl) rfl (by show 2 * 0 + _ ≤ _; exact Nat.le_of_eq rfl) (hb hby at_6) (fun _ _ => ⟨rfl, e45, (by decide : 0 + 0 ≤ _), (by decide : 0 + 0 ≤ _)⟩)
      dsimp only [Pt.U, Pt.locs, Pt.cells, Pt.slots] at X46 l46 y46 z46 st46 hQ46
      subst l46 y46 z46
      obtain ⟨hv46, N46q, e46⟩ := hQ46
      rw [hp1] at hv46
      subst hv46
      have N46 := Fr.app N45 N46q
      obtain ⟨cq47, kq47, q47a, q47b, q47c⟩ := isOf hZ e46 (E_a_LIST.ext O0.2)
      obtain ⟨_, _, ⟨T47, L47, k47, n47⟩, -, X47, ⟨Lc47, hQ47, l47, y47, z47⟩, st47⟩ := X46.virtualBack hx (y := (⟨"com/example/backfill/backfill/engine/Lane", "endpoints", "()Ljava/util/List;"⟩ : MethodName)) (z := (⟨"com/example/backfill/backfill/engine/Lane", "endpoints", "()Ljava/util/List;"⟩ : MethodName)) hown (mvT hZ (hw _ (List.mem_of_getElem? (i := 8) rfl))) (mvT hZ (hw _ (List.mem_of_getElem? (i := 9) rfl))) (notFace_of_selects (args := #[]) (mvT hZ (hw _ (List.mem_of_getElem? (i := 11) rfl)))) (mvT hZ (hw _ (List.mem_of_getElem? (i := 11) rfl))) (mvT hZ (hw _ (List.mem_of_getElem? (i := 10) rfl))) (by decide) (backOf (W := 0) (rm2N l Z a0 hw [] a_LIST a_UPSTREAM a_EMPTY h0 n0 Z0 O0 S_UPSTREAM S_EMPTY (Ne.symm ne_UPSTREAM_LIST)) hZ (hw _ (List.mem_of_getElem? (i := 12) rfl)) (hw _ (List.mem_of_getElem? (i := 6) rfl)) (by decide) (by decide)) q47a q47c (g := (mkF m 11 #[.val (.int u0), .val (.int u1), .val (.ref a_LIST), .val (.ref a_LIST), .unset, .unset, .unset, .unset, .unset] [(.ref a_LIST)])) rfl (by rw [hml]; rfl) (Steps.refl _) (argsL := []) (rest := []) (lenOf pd_1 rfl) rfl (by show 2 * 0 + _ ≤ _; exact Nat.le_of_eq rfl) (hb hby at_11) (fun _ _ => ⟨rfl, e46, (by decide : 0 + 1 ≤ _), (by decide : 0 + 2 ≤ _)⟩)
      dsimp only [Pt.U, Pt.locs, Pt.cells, Pt.slots] at X47 l47 y47 z47 st47 hQ47
      subst l47 y47 z47
      obtain ⟨hv47, N47q, K47, A47, F47a, F47b⟩ := hQ47
      obtain ⟨b47, g47⟩ : ∃ z, z = h0.size := ⟨_, rfl⟩
      rw [← g47] at hv47 A47 F47a F47b
      subst hv47
      have g_b47 : n0 ≤ b47 := Nat.le_trans Z0 (Nat.le_of_eq g47.symm)
      have sz_b47 : h0.size ≤ b47 := Nat.le_trans (Keep.refl h0 []).1 (Nat.le_of_eq g47.symm)
      have N47 := Fr.app N46 N47q
      have Z47 : n0 ≤ T47.heap.size := Nat.le_trans Z0 K47.1
      have KK47 := (Keep.refl h0 []).trans K47 all0
      have O47 := O0.keep K47 all0
      obtain ⟨cq48, kq48, q48a, q48b, q48c⟩ := isOf hZ rfl A47
      obtain ⟨_, _, ⟨T48, L48, k48, n48⟩, -, X48, ⟨Lc48, hQ48, l48, y48, z48⟩, st48⟩ := X47.interfaceBack hx (xi := (⟨"java/util/List", "size", "()I"⟩ : MethodName)) (y := (⟨"java/util/ImmutableCollections$List12", "size", "()I"⟩ : MethodName)) hown (mvT hZ (hw _ (List.mem_of_getElem? (i := 16) rfl))) (mvT hZ (hw _ (List.mem_of_getElem? (i := 17) rfl))) (mvT hZ (hw _ (List.mem_of_getElem? (i := 18) rfl))) (mvT hZ (hw _ (List.mem_of_getElem? (i := 19) rfl))) (mvT hZ (hw _ (List.mem_of_getElem? (i := 20) rfl))) (mvT hZ (hw _ (List.mem_of_getElem? (i := 21) rfl))) (mvT hZ (hw _ (List.mem_of_getElem? (i := 22) rfl))) (mvT hZ (hw _ (List.mem_of_getElem? (i := 23) rfl))) (by decide) (backOf (W := 0) (rm3 l Z a0 hw [] b47 a_EMPTY a_EMPTY T47.heap n0 Z47 O47 S_EMPTY F47b) hZ (hw _ (List.mem_of_getElem? (i := 25) rfl)) (hw _ (List.mem_of_getElem? (i := 24) rfl)) (by decide) (by decide)) q48a q48b q48c (g := (mkF m 18 #[.val (.int u0), .val (.int u1), .val (.ref a_LIST), .val (.ref a_LIST), .val (.ref b47), .unset, .unset, .unset, .unset] [(.ref b47)])) rfl (by rw [hml]; rfl) (Steps.refl _) (argsL := []) (rest := []) (lenOf pd_0 rfl) rfl (by show 2 * 0 + _ ≤ _; exact Nat.le_of_eq rfl) (hb hby at_18) (fun _ _ => ⟨rfl, rfl, (by decide : 1 + 0 ≤ _), (by decide : 2 + 0 ≤ _)⟩)
      dsimp only [Pt.U, Pt.locs, Pt.cells, Pt.slots] at X48 l48 y48 z48 st48 hQ48
      subst l48 y48 z48
      obtain ⟨hv48, N48q, e48⟩ := hQ48
      rw [show sz12 a_EMPTY a_EMPTY = (1 : Int32) from by simp [sz12]] at hv48
      subst hv48
      have N48 := Fr.app N47 N48q
      obtain ⟨T49, X49, e49, st49⟩ := getS2 X48 hx hZ hown (host := "") (Or.inl (hw _ (List.mem_of_getElem? (i := 5) rfl))) Via.refl e48 (S_UPSTREAM.ext O47.2) (g := (mkF m 26 #[.val (.int u0), .val (.int u1), .val (.ref a_LIST), .val (.ref a_LIST), .val (.ref b47), .val (.int (1 : Int32)), .unset, .unset, .unset] [(.ref a_LIST)])) rfl (hb hby at_26)
      obtain ⟨cq50, kq50, q50a, q50b, q50c⟩ := isOf hZ e49 A47
      obtain ⟨_, _, ⟨T50, L50, k50, n50⟩, -, X50, ⟨Lc50, hQ50, l50, y50, z50⟩, st50⟩ := X49.interfaceBack hx (xi := (⟨"java/util/List", "get", "(I)Ljava/lang/Object;"⟩ : MethodName)) (y := (⟨"java/util/ImmutableCollections$List12", "get", "(I)Ljava/lang/Object;"⟩ : MethodName)) hown (mvT hZ (hw _ (List.mem_of_getElem? (i := 31) rfl))) (mvT hZ (hw _ (List.mem_of_getElem? (i := 32) rfl))) (mvT hZ (hw _ (List.mem_of_getElem? (i := 33) rfl))) (mvT hZ (hw _ (List.mem_of_getElem? (i := 34) rfl))) (mvT hZ (hw _ (List.mem_of_getElem? (i := 35) rfl))) (mvT hZ (hw _ (List.mem_of_getElem? (i := 36) rfl))) (mvT hZ (hw _ (List.mem_of_getElem? (i := 37) rfl))) (mvT hZ (hw _ (List.mem_of_getElem? (i := 23) rfl))) (by decide) (backOf (W := 0) (rm4a l Z a0 hw [] b47 a_LIST T47.heap n0 Z47 O47 F47a) hZ (hw _ (List.mem_of_getElem? (i := 38) rfl)) (hw _ (List.mem_of_getElem? (i := 24) rfl)) (by decide) (by decide)) q50a q50b q50c (g := (mkF m 51 #[.val (.int u0), .val (.int u1), .val (.ref a_LIST), .val (.ref a_LIST), .val (.ref b47), .val (.int (1 : Int32)), .val (.int (1 : Int32)), .unset, .unset] [(.int (0 : Int32)), (.ref b47)])) rfl (by rw [hml]; rfl) (Steps.refl _) (argsL := [(.int (0 : Int32))]) (rest := []) (lenOf pd_4 rfl) rfl (by show 2 * 0 + _ ≤ _; exact Nat.le_of_eq rfl) (hb hby at_51) (fun _ _ => ⟨rfl, e49, (by decide : 1 + 0 ≤ _), (by decide : 2 + 0 ≤ _)⟩)
      dsimp only [Pt.U, Pt.locs, Pt.cells, Pt.slots] at X50 l50 y50 z50 st50 hQ50
      subst l50 y50 z50
      obtain ⟨rfl, N50q, e50⟩ := hQ50
      have N50 := Fr.app N48 N50q
      obtain ⟨T51, X51, e51, st51⟩ := getS2 X50 hx hZ hown (host := "") (Or.inl (hw _ (List.mem_of_getElem? (i := 5) rfl))) Via.refl e50 (S_UPSTREAM.ext O47.2) (g := (mkF m 86 #[.val (.int u0), .val (.int u1), .val (.ref a_LIST), .val (.ref a_LIST), .val (.ref b47), .val (.int (1 : Int32)), .val (.int (1 : Int32)), .val (.int (1 : Int32)), .unset] [(.ref a_LIST)])) rfl (hb hby at_86)
      obtain ⟨T52, X52, e52, st52⟩ := getS2 X51 hx hZ hown (host := "") (Or.inl (hw _ (List.mem_of_getElem? (i := 5) rfl))) Via.refl e51 (S_UPSTREAM.ext O47.2) (g := (mkF m 93 #[.val (.int u0), .val (.int u1), .val (.ref a_LIST), .val (.ref a_LIST), .val (.ref b47), .val (.int (1 : Int32)), .val (.int (1 : Int32)), .val (.int (1 : Int32)), .unset] [(.ref a_LIST)])) rfl (hb hby at_93)
      obtain ⟨fs, hr, hrun, hended, hW, hsame⟩ := X52.leave (v := some (.int (1 : Int32))) (fun h => by rw [Bd.returns] at h; cases h)
      refine ⟨_, _, pre0 _ ?_, hrun, hended, _, _, rfl, ?_, ⟨_, rfl⟩, hW, hsame.mono (by decide) (by decide)⟩
      · show Steps p.tables e below (s₁.setTop (mkF m 0 #[.val (.int u0), .val (.int u1), .unset, .unset, .unset, .unset, .unset, .unset, .unset] [])) _
        refine XS.iloadN X0.here hx rfl (hb hby at_0) rfl ?_
        show Steps p.tables e below (s₁.setTop (mkF m 1 #[.val (.int u0), .val (.int u1), .unset, .unset, .unset, .unset, .unset, .unset, .unset] [(.int u0)])) _
        refine st45 _ ?_
        show Steps p.tables e below (T45.setTop (mkF m 4 #[.val (.int u0), .val (.int u1), .unset, .unset, .unset, .unset, .unset, .unset, .unset] [(.ref a_LIST)])) _
        refine XS.astoreN X45.here hx rfl (hb hby at_4) rfl rfl (l' := #[.val (.int u0), .val (.int u1), .val (.ref a_LIST), .unset, .unset, .unset, .unset, .unset, .unset]) rfl ?_
        show Steps p.tables e below (T45.setTop (mkF m 5 #[.val (.int u0), .val (.int u1), .val (.ref a_LIST), .unset, .unset, .unset, .unset, .unset, .unset] [])) _
        refine XS.iloadN X45.here hx rfl (hb hby at_5) rfl ?_
        show Steps p.tables e below (T45.setTop (mkF m 6 #[.val (.int u0), .val (.int u1), .val (.ref a_LIST), .unset, .unset, .unset, .unset, .unset, .unset] [(.int u1)])) _
        refine st46 _ ?_
        show Steps p.tables e below (T46.setTop (mkF m 9 #[.val (.int u0), .val (.int u1), .val (.ref a_LIST), .unset, .unset, .unset, .unset, .unset, .unset] [(.ref a_LIST)])) _
        refine XS.astoreN X46.here hx rfl (hb hby at_9) rfl rfl (l' := #[.val (.int u0), .val (.int u1), .val (.ref a_LIST), .val (.ref a_LIST), .unset, .unset, .unset, .unset, .unset]) rfl ?_
        show Steps p.tables e below (T46.setTop (mkF m 10 #[.val (.int u0), .val (.int u1), .val (.ref a_LIST), .val (.ref a_LIST), .unset, .unset, .unset, .unset, .unset] [])) _
        refine XS.aloadN X46.here hx rfl (hb hby at_10) rfl rfl ?_
        show Steps p.tables e below (T46.setTop (mkF m 11 #[.val (.int u0), .val (.int u1), .val (.ref a_LIST), .val (.ref a_LIST), .unset, .unset, .unset, .unset, .unset] [(.ref a_LIST)])) _
        refine st47.trans ?_
        show Steps p.tables e below (T47.setTop (mkF m 14 #[.val (.int u0), .val (.int u1), .val (.ref a_LIST), .val (.ref a_LIST), .unset, .unset, .unset, .unset, .unset] [(.ref b47)])) _
        refine XS.astore X47.here hx rfl (hb hby at_14) rfl rfl (l' := #[.val (.int u0), .val (.int u1), .val (.ref a_LIST), .val (.ref a_LIST), .val (.ref b47), .unset, .unset, .unset, .unset]) rfl ?_
        show Steps p.tables e below (T47.setTop (mkF m 16 #[.val (.int u0), .val (.int u1), .val (.ref a_LIST), .val (.ref a_LIST), .val (.ref b47), .unset, .unset, .unset, .unset] [])) _
        refine XS.aload X47.here hx rfl (hb hby at_16) rfl rfl ?_
        show Steps p.tables e below (T47.setTop (mkF m 18 #[.val (.int u0), .val (.int u1), .val (.ref a_LIST), .val (.ref a_LIST), .val (.ref b47), .unset, .unset, .unset, .unset] [(.ref b47)])) _
        refine st48.trans ?_
        show Steps p.tables e below (T48.setTop (mkF m 23 #[.val (.int u0), .val (.int u1), .val (.ref a_LIST), .val (.ref a_LIST), .val (.ref b47), .unset, .unset, .unset, .unset] [(.int (1 : Int32))])) _
        refine XS.istore X48.here hx rfl (hb hby at_23) rfl (l' := #[.val (.int u0), .val (.int u1), .val (.ref a_LIST), .val (.ref a_LIST), .val (.ref b47), .val (.int (1 : Int32)), .unset, .unset, .unset]) rfl ?_
        show Steps p.tables e below (T48.setTop (mkF m 25 #[.val (.int u0), .val (.int u1), .val (.ref a_LIST), .val (.ref a_LIST), .val (.ref b47), .val (.int (1 : Int32)), .unset, .unset, .unset] [])) _
        refine XS.aloadN X48.here hx rfl (hb hby at_25) rfl rfl ?_
        show Steps p.tables e below (T48.setTop (mkF m 26 #[.val (.int u0), .val (.int u1), .val (.ref a_LIST), .val (.ref a_LIST), .val (.ref b47), .val (.int (1 : Int32)), .unset, .unset, .unset] [(.ref a_LIST)])) _
        refine st49 _ ?_
        show Steps p.tables e below (T49.setTop (mkF m 29 #[.val (.int u0), .val (.int u1), .val (.ref a_LIST), .val (.ref a_LIST), .val (.ref b47), .val (.int (1 : Int32)), .unset, .unset, .unset] [(.ref a_UPSTREAM), (.ref a_LIST)])) _
        refine Jvm.RoadKit.acmp (g := (mkF m 29 #[.val (.int u0), .val (.int u1), .val (.ref a_LIST), .val (.ref a_LIST), .val (.ref b47), .val (.int (1 : Int32)), .unset, .unset, .unset] [(.ref a_UPSTREAM), (.ref a_LIST)])) X49 hx rfl rfl rfl (pc0 := 29) (pc' := 36) (same := false) rfl (hb hby at_29) rfl (decide_eq_false fun q => (Ne.symm ne_UPSTREAM_LIST) (Value.ref.inj q)) (by decide) (by decide) ?_
        show Steps p.tables e below (T49.setTop (mkF m 36 #[.val (.int u0), .val (.int u1), .val (.ref a_LIST), .val (.ref a_LIST), .val (.ref b47), .val (.int (1 : Int32)), .unset, .unset, .unset] [])) _
        refine XS.iconst X49.here hx rfl (hb hby at_36) ?_
        show Steps p.tables e below (T49.setTop (mkF m 37 #[.val (.int u0), .val (.int u1), .val (.ref a_LIST), .val (.ref a_LIST), .val (.ref b47), .val (.int (1 : Int32)), .unset, .unset, .unset] [(.int (1 : Int32))])) _
        refine XS.istore X49.here hx rfl (hb hby at_37) rfl (l' := #[.val (.int u0), .val (.int u1), .val (.ref a_LIST), .val (.ref a_LIST), .val (.ref b47), .val (.int (1 : Int32)), .val (.int (1 : Int32)), .unset, .unset]) rfl ?_
        show Steps p.tables e below (T49.setTop (mkF m 39 #[.val (.int u0), .val (.int u1), .val (.ref a_LIST), .val (.ref a_LIST), .val (.ref b47), .val (.int (1 : Int32)), .val (.int (1 : Int32)), .unset, .unset] [])) _
        refine XS.iload X49.here hx rfl (hb hby at_39) rfl ?_
        show Steps p.tables e below (T49.setTop (mkF m 41 #[.val (.int u0), .val (.int u1), .val (.ref a_LIST), .val (.ref a_LIST), .val (.ref b47), .val (.int (1 : Int32)), .val (.int (1 : Int32)), .unset, .unset] [(.int (1 : Int32))])) _
        refine XS.iload X49.here hx rfl (hb hby at_41) rfl ?_
        show Steps p.tables e below (T49.setTop (mkF m 43 #[.val (.int u0), .val (.int u1), .val (.ref a_LIST), .val (.ref a_LIST), .val (.ref b47), .val (.int (1 : Int32)), .val (.int (1 : Int32)), .unset, .unset] [(.int (1 : Int32)), (.int (1 : Int32))])) _
        refine XS.icmpYes X49.here hx rfl (pc0 := 43) (pc' := 48) rfl (hb hby at_43) rfl (teq (by decide)).1 (by decide) (by decide) ?_
        show Steps p.tables e below (T49.setTop (mkF m 48 #[.val (.int u0), .val (.int u1), .val (.ref a_LIST), .val (.ref a_LIST), .val (.ref b47), .val (.int (1 : Int32)), .val (.int (1 : Int32)), .unset, .unset] [])) _
        refine XS.aload X49.here hx rfl (hb hby at_48) rfl rfl ?_
        show Steps p.tables e below (T49.setTop (mkF m 50 #[.val (.int u0), .val (.int u1), .val (.ref a_LIST), .val (.ref a_LIST), .val (.ref b47), .val (.int (1 : Int32)), .val (.int (1 : Int32)), .unset, .unset] [(.ref b47)])) _
        refine XS.iconst X49.here hx rfl (hb hby at_50) ?_
        show Steps p.tables e below (T49.setTop (mkF m 51 #[.val (.int u0), .val (.int u1), .val (.ref a_LIST), .val (.ref a_LIST), .val (.ref b47), .val (.int (1 : Int32)), .val (.int (1 : Int32)), .unset, .unset] [(.int (0 : Int32)), (.ref b47)])) _
        refine st50.trans ?_
        show Steps p.tables e below (T50.setTop (mkF m 56 #[.val (.int u0), .val (.int u1), .val (.ref a_LIST), .val (.ref a_LIST), .val (.ref b47), .val (.int (1 : Int32)), .val (.int (1 : Int32)), .unset, .unset] [(.ref a_LIST)])) _
        refine XS.aloadN X50.here hx rfl (hb hby at_56) rfl rfl ?_
        show Steps p.tables e below (T50.setTop (mkF m 57 #[.val (.int u0), .val (.int u1), .val (.ref a_LIST), .val (.ref a_LIST), .val (.ref b47), .val (.int (1 : Int32)), .val (.int (1 : Int32)), .unset, .unset] [(.ref a_LIST), (.ref a_LIST)])) _
        refine Jvm.RoadKit.acmp (g := (mkF m 57 #[.val (.int u0), .val (.int u1), .val (.ref a_LIST), .val (.ref a_LIST), .val (.ref b47), .val (.int (1 : Int32)), .val (.int (1 : Int32)), .unset, .unset] [(.ref a_LIST), (.ref a_LIST)])) X50 hx rfl rfl rfl (pc0 := 57) (pc' := 78) (same := true) rfl (hb hby at_57) rfl (decide_eq_true rfl) (by decide) (by decide) ?_
        show Steps p.tables e below (T50.setTop (mkF m 78 #[.val (.int u0), .val (.int u1), .val (.ref a_LIST), .val (.ref a_LIST), .val (.ref b47), .val (.int (1 : Int32)), .val (.int (1 : Int32)), .unset, .unset] [])) _
        refine XS.iconst X50.here hx rfl (hb hby at_78) ?_
        show Steps p.tables e below (T50.setTop (mkF m 79 #[.val (.int u0), .val (.int u1), .val (.ref a_LIST), .val (.ref a_LIST), .val (.ref b47), .val (.int (1 : Int32)), .val (.int (1 : Int32)), .unset, .unset] [(.int (1 : Int32))])) _
        refine XS.goto X50.here hx rfl (pc0 := 79) (pc' := 83) rfl (hb hby at_79) (by decide) (by decide) ?_
        show Steps p.tables e below (T50.setTop (mkF m 83 #[.val (.int u0), .val (.int u1), .val (.ref a_LIST), .val (.ref a_LIST), .val (.ref b47), .val (.int (1 : Int32)), .val (.int (1 : Int32)), .unset, .unset] [(.int (1 : Int32))])) _
        refine XS.istore X50.here hx rfl (hb hby at_83) rfl (l' := #[.val (.int u0), .val (.int u1), .val (.ref a_LIST), .val (.ref a_LIST), .val (.ref b47), .val (.int (1 : Int32)), .val (.int (1 : Int32)), .val (.int (1 : Int32)), .unset]) rfl ?_
        show Steps p.tables e below (T50.setTop (mkF m 85 #[.val (.int u0), .val (.int u1), .val (.ref a_LIST), .val (.ref a_LIST), .val (.ref b47), .val (.int (1 : Int32)), .val (.int (1 : Int32)), .val (.int (1 : Int32)), .unset] [])) _
        refine XS.aloadN X50.here hx rfl (hb hby at_85) rfl rfl ?_
        show Steps p.tables e below (T50.setTop (mkF m 86 #[.val (.int u0), .val (.int u1), .val (.ref a_LIST), .val (.ref a_LIST), .val (.ref b47), .val (.int (1 : Int32)), .val (.int (1 : Int32)), .val (.int (1 : Int32)), .unset] [(.ref a_LIST)])) _
        refine st51 _ ?_
        show Steps p.tables e below (T51.setTop (mkF m 89 #[.val (.int u0), .val (.int u1), .val (.ref a_LIST), .val (.ref a_LIST), .val (.ref b47), .val (.int (1 : Int32)), .val (.int (1 : Int32)), .val (.int (1 : Int32)), .unset] [(.ref a_UPSTREAM), (.ref a_LIST)])) _
        refine Jvm.RoadKit.acmp (g := (mkF m 89 #[.val (.int u0), .val (.int u1), .val (.ref a_LIST), .val (.ref a_LIST), .val (.ref b47), .val (.int (1 : Int32)), .val (.int (1 : Int32)), .val (.int (1 : Int32)), .unset] [(.ref a_UPSTREAM), (.ref a_LIST)])) X51 hx rfl rfl rfl (pc0 := 89) (pc' := 92) (same := false) rfl (hb hby at_89) rfl (decide_eq_false fun q => (Ne.symm ne_UPSTREAM_LIST) (Value.ref.inj q)) (by decide) (by decide) ?_
        show Steps p.tables e below (T51.setTop (mkF m 92 #[.val (.int u0), .val (.int u1), .val (.ref a_LIST), .val (.ref a_LIST), .val (.ref b47), .val (.int (1 : Int32)), .val (.int (1 : Int32)), .val (.int (1 : Int32)), .unset] [])) _
        refine XS.aloadN X51.here hx rfl (hb hby at_92) rfl rfl ?_
        show Steps p.tables e below (T51.setTop (mkF m 93 #[.val (.int u0), .val (.int u1), .val (.ref a_LIST), .val (.ref a_LIST), .val (.ref b47), .val (.int (1 : Int32)), .val (.int (1 : Int32)), .val (.int (1 : Int32)), .unset] [(.ref a_LIST)])) _
        refine st52 _ ?_
        show Steps p.tables e below (T52.setTop (mkF m 96 #[.val (.int u0), .val (.int u1), .val (.ref a_LIST), .val (.ref a_LIST), .val (.ref b47), .val (.int (1 : Int32)), .val (.int (1 : Int32)), .val (.int (1 : Int32)), .unset] [(.ref a_UPSTREAM), (.ref a_LIST)])) _
        refine Jvm.RoadKit.acmp (g := (mkF m 96 #[.val (.int u0), .val (.int u1), .val (.ref a_LIST), .val (.ref a_LIST), .val (.ref b47), .val (.int (1 : Int32)), .val (.int (1 : Int32)), .val (.int (1 : Int32)), .unset] [(.ref a_UPSTREAM), (.ref a_LIST)])) X52 hx rfl rfl rfl (pc0 := 96) (pc' := 99) (same := false) rfl (hb hby at_96) rfl (decide_eq_false fun q => (Ne.symm ne_UPSTREAM_LIST) (Value.ref.inj q)) (by decide) (by decide) ?_
        show Steps p.tables e below (T52.setTop (mkF m 99 #[.val (.int u0), .val (.int u1), .val (.ref a_LIST), .val (.ref a_LIST), .val (.ref b47), .val (.int (1 : Int32)), .val (.int (1 : Int32)), .val (.int (1 : Int32)), .unset] [])) _
        refine XS.aloadN X52.here hx rfl (hb hby at_99) rfl rfl ?_
        show Steps p.tables e below (T52.setTop (mkF m 100 #[.val (.int u0), .val (.int u1), .val (.ref a_LIST), .val (.ref a_LIST), .val (.ref b47), .val (.int (1 : Int32)), .val (.int (1 : Int32)), .val (.int (1 : Int32)), .unset] [(.ref a_LIST)])) _
        refine XS.aloadN X52.here hx rfl (hb hby at_100) rfl rfl ?_
        show Steps p.tables e below (T52.setTop (mkF m 101 #[.val (.int u0), .val (.int u1), .val (.ref a_LIST), .val (.ref a_LIST), .val (.ref b47), .val (.int (1 : Int32)), .val (.int (1 : Int32)), .val (.int (1 : Int32)), .unset] [(.ref a_LIST), (.ref a_LIST)])) _
        refine Jvm.RoadKit.acmp (g := (mkF m 101 #[.val (.int u0), .val (.int u1), .val (.ref a_LIST), .val (.ref a_LIST), .val (.ref b47), .val (.int (1 : Int32)), .val (.int (1 : Int32)), .val (.int (1 : Int32)), .unset] [(.ref a_LIST), (.ref a_LIST)])) X52 hx rfl rfl rfl (pc0 := 101) (pc' := 104) (same := true) rfl (hb hby at_101) rfl (decide_eq_true rfl) (by decide) (by decide) ?_
        show Steps p.tables e below (T52.setTop (mkF m 104 #[.val (.int u0), .val (.int u1), .val (.ref a_LIST), .val (.ref a_LIST), .val (.ref b47), .val (.int (1 : Int32)), .val (.int (1 : Int32)), .val (.int (1 : Int32)), .unset] [])) _
        refine XS.iconst X52.here hx rfl (hb hby at_104) ?_
        show Steps p.tables e below (T52.setTop (mkF m 105 #[.val (.int u0), .val (.int u1), .val (.ref a_LIST), .val (.ref a_LIST), .val (.ref b47), .val (.int (1 : Int32)), .val (.int (1 : Int32)), .val (.int (1 : Int32)), .unset] [(.int (1 : Int32))])) _
        refine XS.goto X52.here hx rfl (pc0 := 105) (pc' := 109) rfl (hb hby at_105) (by decide) (by decide) ?_
        show Steps p.tables e below (T52.setTop (mkF m 109 #[.val (.int u0), .val (.int u1), .val (.ref a_LIST), .val (.ref a_LIST), .val (.ref b47), .val (.int (1 : Int32)), .val (.int (1 : Int32)), .val (.int (1 : Int32)), .unset] [(.int (1 : Int32))])) _
        refine XS.istore X52.here hx rfl (hb hby at_109) rfl (l' := #[.val (.int u0), .val (.int u1), .val (.ref a_LIST), .val (.ref a_LIST), .val (.ref b47), .val (.int (1 : Int32)), .val (.int (1 : Int32)), .val (.int (1 : Int32)), .val (.int (1 : Int32))]) rfl ?_
        show Steps p.tables e below (T52.setTop (mkF m 111 #[.val (.int u0), .val (.int u1), .val (.ref a_LIST), .val (.ref a_LIST), .val (.ref b47), .val (.int (1 : Int32)), .val (.int (1 : Int32)), .val (.int (1 : Int32)), .val (.int (1 : Int32))] [])) _
        refine XS.iload X52.here hx rfl (hb hby at_111) rfl ?_
        show Steps p.tables e below (T52.setTop (mkF m 113 #[.val (.int u0), .val (.int u1), .val (.ref a_LIST), .val (.ref a_LIST), .val (.ref b47), .val (.int (1 : Int32)), .val (.int (1 : Int32)), .val (.int (1 : Int32)), .val (.int (1 : Int32))] [(.int (1 : Int32))])) _
        refine XS.iload X52.here hx rfl (hb hby at_113) rfl ?_
        show Steps p.tables e below (T52.setTop (mkF m 115 #[.val (.int u0), .val (.int u1), .val (.ref a_LIST), .val (.ref a_LIST), .val (.ref b47), .val (.int (1 : Int32)), .val (.int (1 : Int32)), .val (.int (1 : Int32)), .val (.int (1 : Int32))] [(.int (1 : Int32)), (.int (1 : Int32))])) _
        refine XS.icmpYes X52.here hx rfl (pc0 := 115) (pc' := 120) rfl (hb hby at_115) rfl (teq (by decide)).1 (by decide) (by decide) ?_
        show Steps p.tables e below (T52.setTop (mkF m 120 #[.val (.int u0), .val (.int u1), .val (.ref a_LIST), .val (.ref a_LIST), .val (.ref b47), .val (.int (1 : Int32)), .val (.int (1 : Int32)), .val (.int (1 : Int32)), .val (.int (1 : Int32))] [])) _
        refine XS.iload X52.here hx rfl (hb hby at_120) rfl ?_
        show Steps p.tables e below (T52.setTop (mkF m 122 #[.val (.int u0), .val (.int u1), .val (.ref a_LIST), .val (.ref a_LIST), .val (.ref b47), .val (.int (1 : Int32)), .val (.int (1 : Int32)), .val (.int (1 : Int32)), .val (.int (1 : Int32))] [(.int (1 : Int32))])) _
        refine XS.iconst X52.here hx rfl (hb hby at_122) ?_
        show Steps p.tables e below (T52.setTop (mkF m 123 #[.val (.int u0), .val (.int u1), .val (.ref a_LIST), .val (.ref a_LIST), .val (.ref b47), .val (.int (1 : Int32)), .val (.int (1 : Int32)), .val (.int (1 : Int32)), .val (.int (1 : Int32))] [(.int (2 : Int32)), (.int (1 : Int32))])) _
        refine XS.icmpYes X52.here hx rfl (pc0 := 123) (pc' := 156) rfl (hb hby at_123) rfl (feq (by decide)).2 (by decide) (by decide) ?_
        show Steps p.tables e below (T52.setTop (mkF m 156 #[.val (.int u0), .val (.int u1), .val (.ref a_LIST), .val (.ref a_LIST), .val (.ref b47), .val (.int (1 : Int32)), .val (.int (1 : Int32)), .val (.int (1 : Int32)), .val (.int (1 : Int32))] [])) _
        refine XS.iconst X52.here hx rfl (hb hby at_156) ?_
        show Steps p.tables e below (T52.setTop (mkF m 157 #[.val (.int u0), .val (.int u1), .val (.ref a_LIST), .val (.ref a_LIST), .val (.ref b47), .val (.int (1 : Int32)), .val (.int (1 : Int32)), .val (.int (1 : Int32)), .val (.int (1 : Int32))] [(.int (1 : Int32))])) _
        exact retN X52 hx (t := .boolean) Bd.returns (by simp) (hb hby at_157) hr
      · show Q0 Z u0 u1 a_UPSTREAM a_LIST a_ITEM a_ENDPOINTS a_EMPTY h0 n0 _ T52.heap _
        rw [e52]
        exact ⟨rfl, N50⟩
    · obtain ⟨_, _, ⟨T53, L53, k53, n53⟩, -, X53, ⟨Lc53, hQ53, l53, y53, z53⟩, st53⟩ := Jvm.LawKit.callS X0 hx (y := (⟨"com/example/backfill/backfill/engine/LaneEndpointsPinLaw", "pick", "(I)Lcom/example/backfill/backfill/engine/Lane;"⟩ : MethodName)) hown (mvT hZ (hw _ (List.mem_of_getElem? (i := 0) rfl))) (mvT hZ (hw _ (List.mem_of_getElem? (i := 1) rfl))) (mvT hZ (hw _ (List.mem_of_getElem? (i := 2) rfl))) (mvT hZ (hw _ (List.mem_of_getElem? (i := 3) rfl))) (by decide) (backOf (W := 0) (rm1 l Z a0 hw [] u0 a_UPSTREAM a_LIST a_ITEM h0 n0 Z0 O0 S_UPSTREAM S_LIST S_ITEM) hZ (hw _ (List.mem_of_getElem? (i := 3) rfl)) (hw _ (List.mem_of_getElem? (i := 2) rfl)) (by decide) (by decide)) (g := (mkF m 1 #[.val (.int u0), .val (.int u1), .unset, .unset, .unset, .unset, .unset, .unset, .unset] [(.int u0)])) rfl (by rw [hml]; rfl) (argsL := [(.int u0)]) (rest := []) (lenOf pd_3 rfl) rfl (by show 2 * 0 + _ ≤ _; exact Nat.le_of_eq rfl) (hb hby at_1) (fun _ _ => ⟨rfl, e0, (by decide : 0 + 0 ≤ _), (by decide : 0 + 0 ≤ _)⟩)
      dsimp only [Pt.U, Pt.locs, Pt.cells, Pt.slots] at X53 l53 y53 z53 st53 hQ53
      subst l53 y53 z53
      obtain ⟨hv53, N53q, e53⟩ := hQ53
      rw [hp0] at hv53
      subst hv53
      have N53 := Fr.app N0 N53q
      obtain ⟨_, _, ⟨T54, L54, k54, n54⟩, -, X54, ⟨Lc54, hQ54, l54, y54, z54⟩, st54⟩ := Jvm.LawKit.callS X53 hx (y := (⟨"com/example/backfill/backfill/engine/LaneEndpointsPinLaw", "pick", "(I)Lcom/example/backfill/backfill/engine/Lane;"⟩ : MethodName)) hown (mvT hZ (hw _ (List.mem_of_getElem? (i := 0) rfl))) (mvT hZ (hw _ (List.mem_of_getElem? (i := 1) rfl))) (mvT hZ (hw _ (List.mem_of_getElem? (i := 2) rfl))) (mvT hZ (hw _ (List.mem_of_getElem? (i := 3) rfl))) (by decide) (backOf (W := 0) (rm1 l Z a0 hw [] u1 a_UPSTREAM a_LIST a_ITEM h0 n0 Z0 O0 S_UPSTREAM S_LIST S_ITEM) hZ (hw _ (List.mem_of_getElem? (i := 3) rfl)) (hw _ (List.mem_of_getElem? (i := 2) rfl)) (by decide) (by decide)) (g := (mkF m 6 #[.val (.int u0), .val (.int u1), .val (.ref a_LIST), .unset, .unset, .unset, .unset, .unset, .unset] [(.int u1)])) rfl (by rw [hml]; rfl) (argsL := [(.int u1)]) (rest := []) (lenOf pd_3 rfl) rfl (by show 2 * 0 + _ ≤ _; exact Nat.le_of_eq rfl) (hb hby at_6) (fun _ _ => ⟨rfl, e53, (by decide : 0 + 0 ≤ _), (by decide : 0 + 0 ≤ _)⟩)
      dsimp only [Pt.U, Pt.locs, Pt.cells, Pt.slots] at X54 l54 y54 z54 st54 hQ54
      subst l54 y54 z54
      obtain ⟨hv54, N54q, e54⟩ := hQ54
      rw [hp1] at hv54
      subst hv54
      have N54 := Fr.app N53 N54q
      obtain ⟨cq55, kq55, q55a, q55b, q55c⟩ := isOf hZ e54 (E_a_LIST.ext O0.2)
      obtain ⟨_, _, ⟨T55, L55, k55, n55⟩, -, X55, ⟨Lc55, hQ55, l55, y55, z55⟩, st55⟩ := X54.virtualBack hx (y := (⟨"com/example/backfill/backfill/engine/Lane", "endpoints", "()Ljava/util/List;"⟩ : MethodName)) (z := (⟨"com/example/backfill/backfill/engine/Lane", "endpoints", "()Ljava/util/List;"⟩ : MethodName)) hown (mvT hZ (hw _ (List.mem_of_getElem? (i := 8) rfl))) (mvT hZ (hw _ (List.mem_of_getElem? (i := 9) rfl))) (notFace_of_selects (args := #[]) (mvT hZ (hw _ (List.mem_of_getElem? (i := 11) rfl)))) (mvT hZ (hw _ (List.mem_of_getElem? (i := 11) rfl))) (mvT hZ (hw _ (List.mem_of_getElem? (i := 10) rfl))) (by decide) (backOf (W := 0) (rm2N l Z a0 hw [] a_LIST a_UPSTREAM a_EMPTY h0 n0 Z0 O0 S_UPSTREAM S_EMPTY (Ne.symm ne_UPSTREAM_LIST)) hZ (hw _ (List.mem_of_getElem? (i := 12) rfl)) (hw _ (List.mem_of_getElem? (i := 6) rfl)) (by decide) (by decide)) q55a q55c (g := (mkF m 11 #[.val (.int u0), .val (.int u1), .val (.ref a_LIST), .val (.ref a_ITEM), .unset, .unset, .unset, .unset, .unset] [(.ref a_LIST)])) rfl (by rw [hml]; rfl) (Steps.refl _) (argsL := []) (rest := []) (lenOf pd_1 rfl) rfl (by show 2 * 0 + _ ≤ _; exact Nat.le_of_eq rfl) (hb hby at_11) (fun _ _ => ⟨rfl, e54, (by decide : 0 + 1 ≤ _), (by decide : 0 + 2 ≤ _)⟩)
      dsimp only [Pt.U, Pt.locs, Pt.cells, Pt.slots] at X55 l55 y55 z55 st55 hQ55
      subst l55 y55 z55
      obtain ⟨hv55, N55q, K55, A55, F55a, F55b⟩ := hQ55
      obtain ⟨b55, g55⟩ : ∃ z, z = h0.size := ⟨_, rfl⟩
      rw [← g55] at hv55 A55 F55a F55b
      subst hv55
      have g_b55 : n0 ≤ b55 := Nat.le_trans Z0 (Nat.le_of_eq g55.symm)
      have sz_b55 : h0.size ≤ b55 := Nat.le_trans (Keep.refl h0 []).1 (Nat.le_of_eq g55.symm)
      have N55 := Fr.app N54 N55q
      have Z55 : n0 ≤ T55.heap.size := Nat.le_trans Z0 K55.1
      have KK55 := (Keep.refl h0 []).trans K55 all0
      have O55 := O0.keep K55 all0
      obtain ⟨cq56, kq56, q56a, q56b, q56c⟩ := isOf hZ rfl A55
      obtain ⟨_, _, ⟨T56, L56, k56, n56⟩, -, X56, ⟨Lc56, hQ56, l56, y56, z56⟩, st56⟩ := X55.interfaceBack hx (xi := (⟨"java/util/List", "size", "()I"⟩ : MethodName)) (y := (⟨"java/util/ImmutableCollections$List12", "size", "()I"⟩ : MethodName)) hown (mvT hZ (hw _ (List.mem_of_getElem? (i := 16) rfl))) (mvT hZ (hw _ (List.mem_of_getElem? (i := 17) rfl))) (mvT hZ (hw _ (List.mem_of_getElem? (i := 18) rfl))) (mvT hZ (hw _ (List.mem_of_getElem? (i := 19) rfl))) (mvT hZ (hw _ (List.mem_of_getElem? (i := 20) rfl))) (mvT hZ (hw _ (List.mem_of_getElem? (i := 21) rfl))) (mvT hZ (hw _ (List.mem_of_getElem? (i := 22) rfl))) (mvT hZ (hw _ (List.mem_of_getElem? (i := 23) rfl))) (by decide) (backOf (W := 0) (rm3 l Z a0 hw [] b55 a_EMPTY a_EMPTY T55.heap n0 Z55 O55 S_EMPTY F55b) hZ (hw _ (List.mem_of_getElem? (i := 25) rfl)) (hw _ (List.mem_of_getElem? (i := 24) rfl)) (by decide) (by decide)) q56a q56b q56c (g := (mkF m 18 #[.val (.int u0), .val (.int u1), .val (.ref a_LIST), .val (.ref a_ITEM), .val (.ref b55), .unset, .unset, .unset, .unset] [(.ref b55)])) rfl (by rw [hml]; rfl) (Steps.refl _) (argsL := []) (rest := []) (lenOf pd_0 rfl) rfl (by show 2 * 0 + _ ≤ _; exact Nat.le_of_eq rfl) (hb hby at_18) (fun _ _ => ⟨rfl, rfl, (by decide : 1 + 0 ≤ _), (by decide : 2 + 0 ≤ _)⟩)
      dsimp only [Pt.U, Pt.locs, Pt.cells, Pt.slots] at X56 l56 y56 z56 st56 hQ56
      subst l56 y56 z56
      obtain ⟨hv56, N56q, e56⟩ := hQ56
      rw [show sz12 a_EMPTY a_EMPTY = (1 : Int32) from by simp [sz12]] at hv56
      subst hv56
      have N56 := Fr.app N55 N56q
      obtain ⟨T57, X57, e57, st57⟩ := getS2 X56 hx hZ hown (host := "") (Or.inl (hw _ (List.mem_of_getElem? (i := 5) rfl))) Via.refl e56 (S_UPSTREAM.ext O55.2) (g := (mkF m 26 #[.val (.int u0), .val (.int u1), .val (.ref a_LIST), .val (.ref a_ITEM), .val (.ref b55), .val (.int (1 : Int32)), .unset, .unset, .unset] [(.ref a_LIST)])) rfl (hb hby at_26)
      obtain ⟨cq58, kq58, q58a, q58b, q58c⟩ := isOf hZ e57 A55
      obtain ⟨_, _, ⟨T58, L58, k58, n58⟩, -, X58, ⟨Lc58, hQ58, l58, y58, z58⟩, st58⟩ := X57.interfaceBack hx (xi := (⟨"java/util/List", "get", "(I)Ljava/lang/Object;"⟩ : MethodName)) (y := (⟨"java/util/ImmutableCollections$List12", "get", "(I)Ljava/lang/Object;"⟩ : MethodName)) hown (mvT hZ (hw _ (List.mem_of_getElem? (i := 31) rfl))) (mvT hZ (hw _ (List.mem_of_getElem? (i := 32) rfl))) (mvT hZ (hw _ (List.mem_of_getElem? (i := 33) rfl))) (mvT hZ (hw _ (List.mem_of_getElem? (i := 34) rfl))) (mvT hZ (hw _ (List.mem_of_getElem? (i := 35) rfl))) (mvT hZ (hw _ (List.mem_of_getElem? (i := 36) rfl))) (mvT hZ (hw _ (List.mem_of_getElem? (i := 37) rfl))) (mvT hZ (hw _ (List.mem_of_getElem? (i := 23) rfl))) (by decide) (backOf (W := 0) (rm4a l Z a0 hw [] b55 a_LIST T55.heap n0 Z55 O55 F55a) hZ (hw _ (List.mem_of_getElem? (i := 38) rfl)) (hw _ (List.mem_of_getElem? (i := 24) rfl)) (by decide) (by decide)) q58a q58b q58c (g := (mkF m 51 #[.val (.int u0), .val (.int u1), .val (.ref a_LIST), .val (.ref a_ITEM), .val (.ref b55), .val (.int (1 : Int32)), .val (.int (1 : Int32)), .unset, .unset] [(.int (0 : Int32)), (.ref b55)])) rfl (by rw [hml]; rfl) (Steps.refl _) (argsL := [(.int (0 : Int32))]) (rest := []) (lenOf pd_4 rfl) rfl (by show 2 * 0 + _ ≤ _; exact Nat.le_of_eq rfl) (hb hby at_51) (fun _ _ => ⟨rfl, e57, (by decide : 1 + 0 ≤ _), (by decide : 2 + 0 ≤ _)⟩)
      dsimp only [Pt.U, Pt.locs, Pt.cells, Pt.slots] at X58 l58 y58 z58 st58 hQ58
      subst l58 y58 z58
      obtain ⟨rfl, N58q, e58⟩ := hQ58
      have N58 := Fr.app N56 N58q
      obtain ⟨T59, X59, e59, st59⟩ := getS2 X58 hx hZ hown (host := "") (Or.inl (hw _ (List.mem_of_getElem? (i := 5) rfl))) Via.refl e58 (S_UPSTREAM.ext O55.2) (g := (mkF m 86 #[.val (.int u0), .val (.int u1), .val (.ref a_LIST), .val (.ref a_ITEM), .val (.ref b55), .val (.int (1 : Int32)), .val (.int (1 : Int32)), .val (.int (0 : Int32)), .unset] [(.ref a_ITEM)])) rfl (hb hby at_86)
      obtain ⟨T60, X60, e60, st60⟩ := getS2 X59 hx hZ hown (host := "") (Or.inl (hw _ (List.mem_of_getElem? (i := 5) rfl))) Via.refl e59 (S_UPSTREAM.ext O55.2) (g := (mkF m 93 #[.val (.int u0), .val (.int u1), .val (.ref a_LIST), .val (.ref a_ITEM), .val (.ref b55), .val (.int (1 : Int32)), .val (.int (1 : Int32)), .val (.int (0 : Int32)), .unset] [(.ref a_LIST)])) rfl (hb hby at_93)
      obtain ⟨fs, hr, hrun, hended, hW, hsame⟩ := X60.leave (v := some (.int (1 : Int32))) (fun h => by rw [Bd.returns] at h; cases h)
      refine ⟨_, _, pre0 _ ?_, hrun, hended, _, _, rfl, ?_, ⟨_, rfl⟩, hW, hsame.mono (by decide) (by decide)⟩
      · show Steps p.tables e below (s₁.setTop (mkF m 0 #[.val (.int u0), .val (.int u1), .unset, .unset, .unset, .unset, .unset, .unset, .unset] [])) _
        refine XS.iloadN X0.here hx rfl (hb hby at_0) rfl ?_
        show Steps p.tables e below (s₁.setTop (mkF m 1 #[.val (.int u0), .val (.int u1), .unset, .unset, .unset, .unset, .unset, .unset, .unset] [(.int u0)])) _
        refine st53 _ ?_
        show Steps p.tables e below (T53.setTop (mkF m 4 #[.val (.int u0), .val (.int u1), .unset, .unset, .unset, .unset, .unset, .unset, .unset] [(.ref a_LIST)])) _
        refine XS.astoreN X53.here hx rfl (hb hby at_4) rfl rfl (l' := #[.val (.int u0), .val (.int u1), .val (.ref a_LIST), .unset, .unset, .unset, .unset, .unset, .unset]) rfl ?_
        show Steps p.tables e below (T53.setTop (mkF m 5 #[.val (.int u0), .val (.int u1), .val (.ref a_LIST), .unset, .unset, .unset, .unset, .unset, .unset] [])) _
        refine XS.iloadN X53.here hx rfl (hb hby at_5) rfl ?_
        show Steps p.tables e below (T53.setTop (mkF m 6 #[.val (.int u0), .val (.int u1), .val (.ref a_LIST), .unset, .unset, .unset, .unset, .unset, .unset] [(.int u1)])) _
        refine st54 _ ?_
        show Steps p.tables e below (T54.setTop (mkF m 9 #[.val (.int u0), .val (.int u1), .val (.ref a_LIST), .unset, .unset, .unset, .unset, .unset, .unset] [(.ref a_ITEM)])) _
        refine XS.astoreN X54.here hx rfl (hb hby at_9) rfl rfl (l' := #[.val (.int u0), .val (.int u1), .val (.ref a_LIST), .val (.ref a_ITEM), .unset, .unset, .unset, .unset, .unset]) rfl ?_
        show Steps p.tables e below (T54.setTop (mkF m 10 #[.val (.int u0), .val (.int u1), .val (.ref a_LIST), .val (.ref a_ITEM), .unset, .unset, .unset, .unset, .unset] [])) _
        refine XS.aloadN X54.here hx rfl (hb hby at_10) rfl rfl ?_
        show Steps p.tables e below (T54.setTop (mkF m 11 #[.val (.int u0), .val (.int u1), .val (.ref a_LIST), .val (.ref a_ITEM), .unset, .unset, .unset, .unset, .unset] [(.ref a_LIST)])) _
        refine st55.trans ?_
        show Steps p.tables e below (T55.setTop (mkF m 14 #[.val (.int u0), .val (.int u1), .val (.ref a_LIST), .val (.ref a_ITEM), .unset, .unset, .unset, .unset, .unset] [(.ref b55)])) _
        refine XS.astore X55.here hx rfl (hb hby at_14) rfl rfl (l' := #[.val (.int u0), .val (.int u1), .val (.ref a_LIST), .val (.ref a_ITEM), .val (.ref b55), .unset, .unset, .unset, .unset]) rfl ?_
        show Steps p.tables e below (T55.setTop (mkF m 16 #[.val (.int u0), .val (.int u1), .val (.ref a_LIST), .val (.ref a_ITEM), .val (.ref b55), .unset, .unset, .unset, .unset] [])) _
        refine XS.aload X55.here hx rfl (hb hby at_16) rfl rfl ?_
        show Steps p.tables e below (T55.setTop (mkF m 18 #[.val (.int u0), .val (.int u1), .val (.ref a_LIST), .val (.ref a_ITEM), .val (.ref b55), .unset, .unset, .unset, .unset] [(.ref b55)])) _
        refine st56.trans ?_
        show Steps p.tables e below (T56.setTop (mkF m 23 #[.val (.int u0), .val (.int u1), .val (.ref a_LIST), .val (.ref a_ITEM), .val (.ref b55), .unset, .unset, .unset, .unset] [(.int (1 : Int32))])) _
        refine XS.istore X56.here hx rfl (hb hby at_23) rfl (l' := #[.val (.int u0), .val (.int u1), .val (.ref a_LIST), .val (.ref a_ITEM), .val (.ref b55), .val (.int (1 : Int32)), .unset, .unset, .unset]) rfl ?_
        show Steps p.tables e below (T56.setTop (mkF m 25 #[.val (.int u0), .val (.int u1), .val (.ref a_LIST), .val (.ref a_ITEM), .val (.ref b55), .val (.int (1 : Int32)), .unset, .unset, .unset] [])) _
        refine XS.aloadN X56.here hx rfl (hb hby at_25) rfl rfl ?_
        show Steps p.tables e below (T56.setTop (mkF m 26 #[.val (.int u0), .val (.int u1), .val (.ref a_LIST), .val (.ref a_ITEM), .val (.ref b55), .val (.int (1 : Int32)), .unset, .unset, .unset] [(.ref a_LIST)])) _
        refine st57 _ ?_
        show Steps p.tables e below (T57.setTop (mkF m 29 #[.val (.int u0), .val (.int u1), .val (.ref a_LIST), .val (.ref a_ITEM), .val (.ref b55), .val (.int (1 : Int32)), .unset, .unset, .unset] [(.ref a_UPSTREAM), (.ref a_LIST)])) _
        refine Jvm.RoadKit.acmp (g := (mkF m 29 #[.val (.int u0), .val (.int u1), .val (.ref a_LIST), .val (.ref a_ITEM), .val (.ref b55), .val (.int (1 : Int32)), .unset, .unset, .unset] [(.ref a_UPSTREAM), (.ref a_LIST)])) X57 hx rfl rfl rfl (pc0 := 29) (pc' := 36) (same := false) rfl (hb hby at_29) rfl (decide_eq_false fun q => (Ne.symm ne_UPSTREAM_LIST) (Value.ref.inj q)) (by decide) (by decide) ?_
        show Steps p.tables e below (T57.setTop (mkF m 36 #[.val (.int u0), .val (.int u1), .val (.ref a_LIST), .val (.ref a_ITEM), .val (.ref b55), .val (.int (1 : Int32)), .unset, .unset, .unset] [])) _
        refine XS.iconst X57.here hx rfl (hb hby at_36) ?_
        show Steps p.tables e below (T57.setTop (mkF m 37 #[.val (.int u0), .val (.int u1), .val (.ref a_LIST), .val (.ref a_ITEM), .val (.ref b55), .val (.int (1 : Int32)), .unset, .unset, .unset] [(.int (1 : Int32))])) _
        refine XS.istore X57.here hx rfl (hb hby at_37) rfl (l' := #[.val (.int u0), .val (.int u1), .val (.ref a_LIST), .val (.ref a_ITEM), .val (.ref b55), .val (.int (1 : Int32)), .val (.int (1 : Int32)), .unset, .unset]) rfl ?_
        show Steps p.tables e below (T57.setTop (mkF m 39 #[.val (.int u0), .val (.int u1), .val (.ref a_LIST), .val (.ref a_ITEM), .val (.ref b55), .val (.int (1 : Int32)), .val (.int (1 : Int32)), .unset, .unset] [])) _
        refine XS.iload X57.here hx rfl (hb hby at_39) rfl ?_
        show Steps p.tables e below (T57.setTop (mkF m 41 #[.val (.int u0), .val (.int u1), .val (.ref a_LIST), .val (.ref a_ITEM), .val (.ref b55), .val (.int (1 : Int32)), .val (.int (1 : Int32)), .unset, .unset] [(.int (1 : Int32))])) _
        refine XS.iload X57.here hx rfl (hb hby at_41) rfl ?_
        show Steps p.tables e below (T57.setTop (mkF m 43 #[.val (.int u0), .val (.int u1), .val (.ref a_LIST), .val (.ref a_ITEM), .val (.ref b55), .val (.int (1 : Int32)), .val (.int (1 : Int32)), .unset, .unset] [(.int (1 : Int32)), (.int (1 : Int32))])) _
        refine XS.icmpYes X57.here hx rfl (pc0 := 43) (pc' := 48) rfl (hb hby at_43) rfl (teq (by decide)).1 (by decide) (by decide) ?_
        show Steps p.tables e below (T57.setTop (mkF m 48 #[.val (.int u0), .val (.int u1), .val (.ref a_LIST), .val (.ref a_ITEM), .val (.ref b55), .val (.int (1 : Int32)), .val (.int (1 : Int32)), .unset, .unset] [])) _
        refine XS.aload X57.here hx rfl (hb hby at_48) rfl rfl ?_
        show Steps p.tables e below (T57.setTop (mkF m 50 #[.val (.int u0), .val (.int u1), .val (.ref a_LIST), .val (.ref a_ITEM), .val (.ref b55), .val (.int (1 : Int32)), .val (.int (1 : Int32)), .unset, .unset] [(.ref b55)])) _
        refine XS.iconst X57.here hx rfl (hb hby at_50) ?_
        show Steps p.tables e below (T57.setTop (mkF m 51 #[.val (.int u0), .val (.int u1), .val (.ref a_LIST), .val (.ref a_ITEM), .val (.ref b55), .val (.int (1 : Int32)), .val (.int (1 : Int32)), .unset, .unset] [(.int (0 : Int32)), (.ref b55)])) _
        refine st58.trans ?_
        show Steps p.tables e below (T58.setTop (mkF m 56 #[.val (.int u0), .val (.int u1), .val (.ref a_LIST), .val (.ref a_ITEM), .val (.ref b55), .val (.int (1 : Int32)), .val (.int (1 : Int32)), .unset, .unset] [(.ref a_LIST)])) _
        refine XS.aloadN X58.here hx rfl (hb hby at_56) rfl rfl ?_
        show Steps p.tables e below (T58.setTop (mkF m 57 #[.val (.int u0), .val (.int u1), .val (.ref a_LIST), .val (.ref a_ITEM), .val (.ref b55), .val (.int (1 : Int32)), .val (.int (1 : Int32)), .unset, .unset] [(.ref a_ITEM), (.ref a_LIST)])) _
        refine Jvm.RoadKit.acmp (g := (mkF m 57 #[.val (.int u0), .val (.int u1), .val (.ref a_LIST), .val (.ref a_ITEM), .val (.ref b55), .val (.int (1 : Int32)), .val (.int (1 : Int32)), .unset, .unset] [(.ref a_ITEM), (.ref a_LIST)])) X58 hx rfl rfl rfl (pc0 := 57) (pc' := 60) (same := false) rfl (hb hby at_57) rfl (decide_eq_false fun q => ne_LIST_ITEM (Value.ref.inj q)) (by decide) (by decide) ?_
        show Steps p.tables e below (T58.setTop (mkF m 60 #[.val (.int u0), .val (.int u1), .val (.ref a_LIST), .val (.ref a_ITEM), .val (.ref b55), .val (.int (1 : Int32)), .val (.int (1 : Int32)), .unset, .unset] [])) _
        refine XS.iload X58.here hx rfl (hb hby at_60) rfl ?_
        show Steps p.tables e below (T58.setTop (mkF m 62 #[.val (.int u0), .val (.int u1), .val (.ref a_LIST), .val (.ref a_ITEM), .val (.ref b55), .val (.int (1 : Int32)), .val (.int (1 : Int32)), .unset, .unset] [(.int (1 : Int32))])) _
        refine XS.iconst X58.here hx rfl (hb hby at_62) ?_
        show Steps p.tables e below (T58.setTop (mkF m 63 #[.val (.int u0), .val (.int u1), .val (.ref a_LIST), .val (.ref a_ITEM), .val (.ref b55), .val (.int (1 : Int32)), .val (.int (1 : Int32)), .unset, .unset] [(.int (1 : Int32)), (.int (1 : Int32))])) _
        refine XS.icmpYes X58.here hx rfl (pc0 := 63) (pc' := 82) rfl (hb hby at_63) rfl (flt (by decide)).2.2.2 (by decide) (by decide) ?_
        show Steps p.tables e below (T58.setTop (mkF m 82 #[.val (.int u0), .val (.int u1), .val (.ref a_LIST), .val (.ref a_ITEM), .val (.ref b55), .val (.int (1 : Int32)), .val (.int (1 : Int32)), .unset, .unset] [])) _
        refine XS.iconst X58.here hx rfl (hb hby at_82) ?_
        show Steps p.tables e below (T58.setTop (mkF m 83 #[.val (.int u0), .val (.int u1), .val (.ref a_LIST), .val (.ref a_ITEM), .val (.ref b55), .val (.int (1 : Int32)), .val (.int (1 : Int32)), .unset, .unset] [(.int (0 : Int32))])) _
        refine XS.istore X58.here hx rfl (hb hby at_83) rfl (l' := #[.val (.int u0), .val (.int u1), .val (.ref a_LIST), .val (.ref a_ITEM), .val (.ref b55), .val (.int (1 : Int32)), .val (.int (1 : Int32)), .val (.int (0 : Int32)), .unset]) rfl ?_
        show Steps p.tables e below (T58.setTop (mkF m 85 #[.val (.int u0), .val (.int u1), .val (.ref a_LIST), .val (.ref a_ITEM), .val (.ref b55), .val (.int (1 : Int32)), .val (.int (1 : Int32)), .val (.int (0 : Int32)), .unset] [])) _
        refine XS.aloadN X58.here hx rfl (hb hby at_85) rfl rfl ?_
        show Steps p.tables e below (T58.setTop (mkF m 86 #[.val (.int u0), .val (.int u1), .val (.ref a_LIST), .val (.ref a_ITEM), .val (.ref b55), .val (.int (1 : Int32)), .val (.int (1 : Int32)), .val (.int (0 : Int32)), .unset] [(.ref a_ITEM)])) _
        refine st59 _ ?_
        show Steps p.tables e below (T59.setTop (mkF m 89 #[.val (.int u0), .val (.int u1), .val (.ref a_LIST), .val (.ref a_ITEM), .val (.ref b55), .val (.int (1 : Int32)), .val (.int (1 : Int32)), .val (.int (0 : Int32)), .unset] [(.ref a_UPSTREAM), (.ref a_ITEM)])) _
        refine Jvm.RoadKit.acmp (g := (mkF m 89 #[.val (.int u0), .val (.int u1), .val (.ref a_LIST), .val (.ref a_ITEM), .val (.ref b55), .val (.int (1 : Int32)), .val (.int (1 : Int32)), .val (.int (0 : Int32)), .unset] [(.ref a_UPSTREAM), (.ref a_ITEM)])) X59 hx rfl rfl rfl (pc0 := 89) (pc' := 92) (same := false) rfl (hb hby at_89) rfl (decide_eq_false fun q => (Ne.symm ne_UPSTREAM_ITEM) (Value.ref.inj q)) (by decide) (by decide) ?_
        show Steps p.tables e below (T59.setTop (mkF m 92 #[.val (.int u0), .val (.int u1), .val (.ref a_LIST), .val (.ref a_ITEM), .val (.ref b55), .val (.int (1 : Int32)), .val (.int (1 : Int32)), .val (.int (0 : Int32)), .unset] [])) _
        refine XS.aloadN X59.here hx rfl (hb hby at_92) rfl rfl ?_
        show Steps p.tables e below (T59.setTop (mkF m 93 #[.val (.int u0), .val (.int u1), .val (.ref a_LIST), .val (.ref a_ITEM), .val (.ref b55), .val (.int (1 : Int32)), .val (.int (1 : Int32)), .val (.int (0 : Int32)), .unset] [(.ref a_LIST)])) _
        refine st60 _ ?_
        show Steps p.tables e below (T60.setTop (mkF m 96 #[.val (.int u0), .val (.int u1), .val (.ref a_LIST), .val (.ref a_ITEM), .val (.ref b55), .val (.int (1 : Int32)), .val (.int (1 : Int32)), .val (.int (0 : Int32)), .unset] [(.ref a_UPSTREAM), (.ref a_LIST)])) _
        refine Jvm.RoadKit.acmp (g := (mkF m 96 #[.val (.int u0), .val (.int u1), .val (.ref a_LIST), .val (.ref a_ITEM), .val (.ref b55), .val (.int (1 : Int32)), .val (.int (1 : Int32)), .val (.int (0 : Int32)), .unset] [(.ref a_UPSTREAM), (.ref a_LIST)])) X60 hx rfl rfl rfl (pc0 := 96) (pc' := 99) (same := false) rfl (hb hby at_96) rfl (decide_eq_false fun q => (Ne.symm ne_UPSTREAM_LIST) (Value.ref.inj q)) (by decide) (by decide) ?_
        show Steps p.tables e below (T60.setTop (mkF m 99 #[.val (.int u0), .val (.int u1), .val (.ref a_LIST), .val (.ref a_ITEM), .val (.ref b55), .val (.int (1 : Int32)), .val (.int (1 : Int32)), .val (.int (0 : Int32)), .unset] [])) _
        refine XS.aloadN X60.here hx rfl (hb hby at_99) rfl rfl ?_
        show Steps p.tables e below (T60.setTop (mkF m 100 #[.val (.int u0), .val (.int u1), .val (.ref a_LIST), .val (.ref a_ITEM), .val (.ref b55), .val (.int (1 : Int32)), .val (.int (1 : Int32)), .val (.int (0 : Int32)), .unset] [(.ref a_LIST)])) _
        refine XS.aloadN X60.here hx rfl (hb hby at_100) rfl rfl ?_
        show Steps p.tables e below (T60.setTop (mkF m 101 #[.val (.int u0), .val (.int u1), .val (.ref a_LIST), .val (.ref a_ITEM), .val (.ref b55), .val (.int (1 : Int32)), .val (.int (1 : Int32)), .val (.int (0 : Int32)), .unset] [(.ref a_ITEM), (.ref a_LIST)])) _
        refine Jvm.RoadKit.acmp (g := (mkF m 101 #[.val (.int u0), .val (.int u1), .val (.ref a_LIST), .val (.ref a_ITEM), .val (.ref b55), .val (.int (1 : Int32)), .val (.int (1 : Int32)), .val (.int (0 : Int32)), .unset] [(.ref a_ITEM), (.ref a_LIST)])) X60 hx rfl rfl rfl (pc0 := 101) (pc' := 108) (same := false) rfl (hb hby at_101) rfl (decide_eq_false fun q => ne_LIST_ITEM (Value.ref.inj q)) (by decide) (by decide) ?_
        show Steps p.tables e below (T60.setTop (mkF m 108 #[.val (.int u0), .val (.int u1), .val (.ref a_LIST), .val (.ref a_ITEM), .val (.ref b55), .val (.int (1 : Int32)), .val (.int (1 : Int32)), .val (.int (0 : Int32)), .unset] [])) _
        refine XS.iconst X60.here hx rfl (hb hby at_108) ?_
        show Steps p.tables e below (T60.setTop (mkF m 109 #[.val (.int u0), .val (.int u1), .val (.ref a_LIST), .val (.ref a_ITEM), .val (.ref b55), .val (.int (1 : Int32)), .val (.int (1 : Int32)), .val (.int (0 : Int32)), .unset] [(.int (0 : Int32))])) _
        refine XS.istore X60.here hx rfl (hb hby at_109) rfl (l' := #[.val (.int u0), .val (.int u1), .val (.ref a_LIST), .val (.ref a_ITEM), .val (.ref b55), .val (.int (1 : Int32)), .val (.int (1 : Int32)), .val (.int (0 : Int32)), .val (.int (0 : Int32))]) rfl ?_
        show Steps p.tables e below (T60.setTop (mkF m 111 #[.val (.int u0), .val (.int u1), .val (.ref a_LIST), .val (.ref a_ITEM), .val (.ref b55), .val (.int (1 : Int32)), .val (.int (1 : Int32)), .val (.int (0 : Int32)), .val (.int (0 : Int32))] [])) _
        refine XS.iload X60.here hx rfl (hb hby at_111) rfl ?_
        show Steps p.tables e below (T60.setTop (mkF m 113 #[.val (.int u0), .val (.int u1), .val (.ref a_LIST), .val (.ref a_ITEM), .val (.ref b55), .val (.int (1 : Int32)), .val (.int (1 : Int32)), .val (.int (0 : Int32)), .val (.int (0 : Int32))] [(.int (0 : Int32))])) _
        refine XS.iload X60.here hx rfl (hb hby at_113) rfl ?_
        show Steps p.tables e below (T60.setTop (mkF m 115 #[.val (.int u0), .val (.int u1), .val (.ref a_LIST), .val (.ref a_ITEM), .val (.ref b55), .val (.int (1 : Int32)), .val (.int (1 : Int32)), .val (.int (0 : Int32)), .val (.int (0 : Int32))] [(.int (0 : Int32)), (.int (0 : Int32))])) _
        refine XS.icmpYes X60.here hx rfl (pc0 := 115) (pc' := 120) rfl (hb hby at_115) rfl (teq (by decide)).1 (by decide) (by decide) ?_
        show Steps p.tables e below (T60.setTop (mkF m 120 #[.val (.int u0), .val (.int u1), .val (.ref a_LIST), .val (.ref a_ITEM), .val (.ref b55), .val (.int (1 : Int32)), .val (.int (1 : Int32)), .val (.int (0 : Int32)), .val (.int (0 : Int32))] [])) _
        refine XS.iload X60.here hx rfl (hb hby at_120) rfl ?_
        show Steps p.tables e below (T60.setTop (mkF m 122 #[.val (.int u0), .val (.int u1), .val (.ref a_LIST), .val (.ref a_ITEM), .val (.ref b55), .val (.int (1 : Int32)), .val (.int (1 : Int32)), .val (.int (0 : Int32)), .val (.int (0 : Int32))] [(.int (1 : Int32))])) _
        refine XS.iconst X60.here hx rfl (hb hby at_122) ?_
        show Steps p.tables e below (T60.setTop (mkF m 123 #[.val (.int u0), .val (.int u1), .val (.ref a_LIST), .val (.ref a_ITEM), .val (.ref b55), .val (.int (1 : Int32)), .val (.int (1 : Int32)), .val (.int (0 : Int32)), .val (.int (0 : Int32))] [(.int (2 : Int32)), (.int (1 : Int32))])) _
        refine XS.icmpYes X60.here hx rfl (pc0 := 123) (pc' := 156) rfl (hb hby at_123) rfl (feq (by decide)).2 (by decide) (by decide) ?_
        show Steps p.tables e below (T60.setTop (mkF m 156 #[.val (.int u0), .val (.int u1), .val (.ref a_LIST), .val (.ref a_ITEM), .val (.ref b55), .val (.int (1 : Int32)), .val (.int (1 : Int32)), .val (.int (0 : Int32)), .val (.int (0 : Int32))] [])) _
        refine XS.iconst X60.here hx rfl (hb hby at_156) ?_
        show Steps p.tables e below (T60.setTop (mkF m 157 #[.val (.int u0), .val (.int u1), .val (.ref a_LIST), .val (.ref a_ITEM), .val (.ref b55), .val (.int (1 : Int32)), .val (.int (1 : Int32)), .val (.int (0 : Int32)), .val (.int (0 : Int32))] [(.int (1 : Int32))])) _
        exact retN X60 hx (t := .boolean) Bd.returns (by simp) (hb hby at_157) hr
      · show Q0 Z u0 u1 a_UPSTREAM a_LIST a_ITEM a_ENDPOINTS a_EMPTY h0 n0 _ T60.heap _
        rw [e60]
        exact ⟨rfl, N58⟩
  · rcases own_pick u1 a_UPSTREAM a_LIST a_ITEM with hp1 | hp1 | hp1
    · obtain ⟨_, _, ⟨T61, L61, k61, n61⟩, -, X61, ⟨Lc61, hQ61, l61, y61, z61⟩, st61⟩ := Jvm.LawKit.callS X0 hx (y := (⟨"com/example/backfill/backfill/engine/LaneEndpointsPinLaw", "pick", "(I)Lcom/example/backfill/backfill/engine/Lane;"⟩ : MethodName)) hown (mvT hZ (hw _ (List.mem_of_getElem? (i := 0) rfl))) (mvT hZ (hw _ (List.mem_of_getElem? (i := 1) rfl))) (mvT hZ (hw _ (List.mem_of_getElem? (i := 2) rfl))) (mvT hZ (hw _ (List.mem_of_getElem? (i := 3) rfl))) (by decide) (backOf (W := 0) (rm1 l Z a0 hw [] u0 a_UPSTREAM a_LIST a_ITEM h0 n0 Z0 O0 S_UPSTREAM S_LIST S_ITEM) hZ (hw _ (List.mem_of_getElem? (i := 3) rfl)) (hw _ (List.mem_of_getElem? (i := 2) rfl)) (by decide) (by decide)) (g := (mkF m 1 #[.val (.int u0), .val (.int u1), .unset, .unset, .unset, .unset, .unset, .unset, .unset] [(.int u0)])) rfl (by rw [hml]; rfl) (argsL := [(.int u0)]) (rest := []) (lenOf pd_3 rfl) rfl (by show 2 * 0 + _ ≤ _; exact Nat.le_of_eq rfl) (hb hby at_1) (fun _ _ => ⟨rfl, e0, (by decide : 0 + 0 ≤ _), (by decide : 0 + 0 ≤ _)⟩)
      dsimp only [Pt.U, Pt.locs, Pt.cells, Pt.slots] at X61 l61 y61 z61 st61 hQ61
      subst l61 y61 z61
      obtain ⟨hv61, N61q, e61⟩ := hQ61
      rw [hp0] at hv61
      subst hv61
      have N61 := Fr.app N0 N61q
      obtain ⟨_, _, ⟨T62, L62, k62, n62⟩, -, X62, ⟨Lc62, hQ62, l62, y62, z62⟩, st62⟩ := Jvm.LawKit.callS X61 hx (y := (⟨"com/example/backfill/backfill/engine/LaneEndpointsPinLaw", "pick", "(I)Lcom/example/backfill/backfill/engine/Lane;"⟩ : MethodName)) hown (mvT hZ (hw _ (List.mem_of_getElem? (i := 0) rfl))) (mvT hZ (hw _ (List.mem_of_getElem? (i := 1) rfl))) (mvT hZ (hw _ (List.mem_of_getElem? (i := 2) rfl))) (mvT hZ (hw _ (List.mem_of_getElem? (i := 3) rfl))) (by decide) (backOf (W := 0) (rm1 l Z a0 hw [] u1 a_UPSTREAM a_LIST a_ITEM h0 n0 Z0 O0 S_UPSTREAM S_LIST S_ITEM) hZ (hw _ (List.mem_of_getElem? (i := 3) rfl)) (hw _ (List.mem_of_getElem? (i := 2) rfl)) (by decide) (by decide)) (g := (mkF m 6 #[.val (.int u0), .val (.int u1), .val (.ref a_ITEM), .unset, .unset, .unset, .unset, .unset, .unset] [(.int u1)])) rfl (by rw [hml]; rfl) (argsL := [(.int u1)]) (rest := []) (lenOf pd_3 rfl) rfl (by show 2 * 0 + _ ≤ _; exact Nat.le_of_eq rfl) (hb hby at_6) (fun _ _ => ⟨rfl, e61, (by decide : 0 + 0 ≤ _), (by decide : 0 + 0 ≤ _)⟩)
      dsimp only [Pt.U, Pt.locs, Pt.cells, Pt.slots] at X62 l62 y62 z62 st62 hQ62
      subst l62 y62 z62
      obtain ⟨hv62, N62q, e62⟩ := hQ62
      rw [hp1] at hv62
      subst hv62
      have N62 := Fr.app N61 N62q
      obtain ⟨cq63, kq63, q63a, q63b, q63c⟩ := isOf hZ e62 (E_a_ITEM.ext O0.2)
      obtain ⟨_, _, ⟨T63, L63, k63, n63⟩, -, X63, ⟨Lc63, hQ63, l63, y63, z63⟩, st63⟩ := X62.virtualBack hx (y := (⟨"com/example/backfill/backfill/engine/Lane", "endpoints", "()Ljava/util/List;"⟩ : MethodName)) (z := (⟨"com/example/backfill/backfill/engine/Lane", "endpoints", "()Ljava/util/List;"⟩ : MethodName)) hown (mvT hZ (hw _ (List.mem_of_getElem? (i := 8) rfl))) (mvT hZ (hw _ (List.mem_of_getElem? (i := 9) rfl))) (notFace_of_selects (args := #[]) (mvT hZ (hw _ (List.mem_of_getElem? (i := 11) rfl)))) (mvT hZ (hw _ (List.mem_of_getElem? (i := 11) rfl))) (mvT hZ (hw _ (List.mem_of_getElem? (i := 10) rfl))) (by decide) (backOf (W := 0) (rm2N l Z a0 hw [] a_ITEM a_UPSTREAM a_EMPTY h0 n0 Z0 O0 S_UPSTREAM S_EMPTY (Ne.symm ne_UPSTREAM_ITEM)) hZ (hw _ (List.mem_of_getElem? (i := 12) rfl)) (hw _ (List.mem_of_getElem? (i := 6) rfl)) (by decide) (by decide)) q63a q63c (g := (mkF m 11 #[.val (.int u0), .val (.int u1), .val (.ref a_ITEM), .val (.ref a_UPSTREAM), .unset, .unset, .unset, .unset, .unset] [(.ref a_ITEM)])) rfl (by rw [hml]; rfl) (Steps.refl _) (argsL := []) (rest := []) (lenOf pd_1 rfl) rfl (by show 2 * 0 + _ ≤ _; exact Nat.le_of_eq rfl) (hb hby at_11) (fun _ _ => ⟨rfl, e62, (by decide : 0 + 1 ≤ _), (by decide : 0 + 2 ≤ _)⟩)
      dsimp only [Pt.U, Pt.locs, Pt.cells, Pt.slots] at X63 l63 y63 z63 st63 hQ63
      subst l63 y63 z63
      obtain ⟨hv63, N63q, K63, A63, F63a, F63b⟩ := hQ63
      obtain ⟨b63, g63⟩ : ∃ z, z = h0.size := ⟨_, rfl⟩
      rw [← g63] at hv63 A63 F63a F63b
      subst hv63
      have g_b63 : n0 ≤ b63 := Nat.le_trans Z0 (Nat.le_of_eq g63.symm)
      have sz_b63 : h0.size ≤ b63 := Nat.le_trans (Keep.refl h0 []).1 (Nat.le_of_eq g63.symm)
      have N63 := Fr.app N62 N63q
      have Z63 : n0 ≤ T63.heap.size := Nat.le_trans Z0 K63.1
      have KK63 := (Keep.refl h0 []).trans K63 all0
      have O63 := O0.keep K63 all0
      obtain ⟨cq64, kq64, q64a, q64b, q64c⟩ := isOf hZ rfl A63
      obtain ⟨_, _, ⟨T64, L64, k64, n64⟩, -, X64, ⟨Lc64, hQ64, l64, y64, z64⟩, st64⟩ := X63.interfaceBack hx (xi := (⟨"java/util/List", "size", "()I"⟩ : MethodName)) (y := (⟨"java/util/ImmutableCollections$List12", "size", "()I"⟩ : MethodName)) hown (mvT hZ (hw _ (List.mem_of_getElem? (i := 16) rfl))) (mvT hZ (hw _ (List.mem_of_getElem? (i := 17) rfl))) (mvT hZ (hw _ (List.mem_of_getElem? (i := 18) rfl))) (mvT hZ (hw _ (List.mem_of_getElem? (i := 19) rfl))) (mvT hZ (hw _ (List.mem_of_getElem? (i := 20) rfl))) (mvT hZ (hw _ (List.mem_of_getElem? (i := 21) rfl))) (mvT hZ (hw _ (List.mem_of_getElem? (i := 22) rfl))) (mvT hZ (hw _ (List.mem_of_getElem? (i := 23) rfl))) (by decide) (backOf (W := 0) (rm3 l Z a0 hw [] b63 a_EMPTY a_EMPTY T63.heap n0 Z63 O63 S_EMPTY F63b) hZ (hw _ (List.mem_of_getElem? (i := 25) rfl)) (hw _ (List.mem_of_getElem? (i := 24) rfl)) (by decide) (by decide)) q64a q64b q64c (g := (mkF m 18 #[.val (.int u0), .val (.int u1), .val (.ref a_ITEM), .val (.ref a_UPSTREAM), .val (.ref b63), .unset, .unset, .unset, .unset] [(.ref b63)])) rfl (by rw [hml]; rfl) (Steps.refl _) (argsL := []) (rest := []) (lenOf pd_0 rfl) rfl (by show 2 * 0 + _ ≤ _; exact Nat.le_of_eq rfl) (hb hby at_18) (fun _ _ => ⟨rfl, rfl, (by decide : 1 + 0 ≤ _), (by decide : 2 + 0 ≤ _)⟩)
      dsimp only [Pt.U, Pt.locs, Pt.cells, Pt.slots] at X64 l64 y64 z64 st64 hQ64
      subst l64 y64 z64
      obtain ⟨hv64, N64q, e64⟩ := hQ64
      rw [show sz12 a_EMPTY a_EMPTY = (1 : Int32) from by simp [sz12]] at hv64
      subst hv64
      have N64 := Fr.app N63 N64q
      obtain ⟨T65, X65, e65, st65⟩ := getS2 X64 hx hZ hown (host := "") (Or.inl (hw _ (List.mem_of_getElem? (i := 5) rfl))) Via.refl e64 (S_UPSTREAM.ext O63.2) (g := (mkF m 26 #[.val (.int u0), .val (.int u1), .val (.ref a_ITEM), .val (.ref a_UPSTREAM), .val (.ref b63), .val (.int (1 : Int32)), .unset, .unset, .unset] [(.ref a_ITEM)])) rfl (hb hby at_26)
      obtain ⟨cq66, kq66, q66a, q66b, q66c⟩ := isOf hZ e65 A63
      obtain ⟨_, _, ⟨T66, L66, k66, n66⟩, -, X66, ⟨Lc66, hQ66, l66, y66, z66⟩, st66⟩ := X65.interfaceBack hx (xi := (⟨"java/util/List", "get", "(I)Ljava/lang/Object;"⟩ : MethodName)) (y := (⟨"java/util/ImmutableCollections$List12", "get", "(I)Ljava/lang/Object;"⟩ : MethodName)) hown (mvT hZ (hw _ (List.mem_of_getElem? (i := 31) rfl))) (mvT hZ (hw _ (List.mem_of_getElem? (i := 32) rfl))) (mvT hZ (hw _ (List.mem_of_getElem? (i := 33) rfl))) (mvT hZ (hw _ (List.mem_of_getElem? (i := 34) rfl))) (mvT hZ (hw _ (List.mem_of_getElem? (i := 35) rfl))) (mvT hZ (hw _ (List.mem_of_getElem? (i := 36) rfl))) (mvT hZ (hw _ (List.mem_of_getElem? (i := 37) rfl))) (mvT hZ (hw _ (List.mem_of_getElem? (i := 23) rfl))) (by decide) (backOf (W := 0) (rm4a l Z a0 hw [] b63 a_ITEM T63.heap n0 Z63 O63 F63a) hZ (hw _ (List.mem_of_getElem? (i := 38) rfl)) (hw _ (List.mem_of_getElem? (i := 24) rfl)) (by decide) (by decide)) q66a q66b q66c (g := (mkF m 51 #[.val (.int u0), .val (.int u1), .val (.ref a_ITEM), .val (.ref a_UPSTREAM), .val (.ref b63), .val (.int (1 : Int32)), .val (.int (1 : Int32)), .unset, .unset] [(.int (0 : Int32)), (.ref b63)])) rfl (by rw [hml]; rfl) (Steps.refl _) (argsL := [(.int (0 : Int32))]) (rest := []) (lenOf pd_4 rfl) rfl (by show 2 * 0 + _ ≤ _; exact Nat.le_of_eq rfl) (hb hby at_51) (fun _ _ => ⟨rfl, e65, (by decide : 1 + 0 ≤ _), (by decide : 2 + 0 ≤ _)⟩)
      dsimp only [Pt.U, Pt.locs, Pt.cells, Pt.slots] at X66 l66 y66 z66 st66 hQ66
      subst l66 y66 z66
      obtain ⟨rfl, N66q, e66⟩ := hQ66
      have N66 := Fr.app N64 N66q
      obtain ⟨T67, X67, e67, st67⟩ := getS2 X66 hx hZ hown (host := "") (Or.inl (hw _ (List.mem_of_getElem? (i := 5) rfl))) Via.refl e66 (S_UPSTREAM.ext O63.2) (g := (mkF m 86 #[.val (.int u0), .val (.int u1), .val (.ref a_ITEM), .val (.ref a_UPSTREAM), .val (.ref b63), .val (.int (1 : Int32)), .val (.int (1 : Int32)), .val (.int (0 : Int32)), .unset] [(.ref a_UPSTREAM)])) rfl (hb hby at_86)
      obtain ⟨fs, hr, hrun, hended, hW, hsame⟩ := X67.leave (v := some (.int (1 : Int32))) (fun h => by rw [Bd.returns] at h; cases h)
      refine ⟨_, _, pre0 _ ?_, hrun, hended, _, _, rfl, ?_, ⟨_, rfl⟩, hW, hsame.mono (by decide) (by decide)⟩
      · show Steps p.tables e below (s₁.setTop (mkF m 0 #[.val (.int u0), .val (.int u1), .unset, .unset, .unset, .unset, .unset, .unset, .unset] [])) _
        refine XS.iloadN X0.here hx rfl (hb hby at_0) rfl ?_
        show Steps p.tables e below (s₁.setTop (mkF m 1 #[.val (.int u0), .val (.int u1), .unset, .unset, .unset, .unset, .unset, .unset, .unset] [(.int u0)])) _
        refine st61 _ ?_
        show Steps p.tables e below (T61.setTop (mkF m 4 #[.val (.int u0), .val (.int u1), .unset, .unset, .unset, .unset, .unset, .unset, .unset] [(.ref a_ITEM)])) _
        refine XS.astoreN X61.here hx rfl (hb hby at_4) rfl rfl (l' := #[.val (.int u0), .val (.int u1), .val (.ref a_ITEM), .unset, .unset, .unset, .unset, .unset, .unset]) rfl ?_
        show Steps p.tables e below (T61.setTop (mkF m 5 #[.val (.int u0), .val (.int u1), .val (.ref a_ITEM), .unset, .unset, .unset, .unset, .unset, .unset] [])) _
        refine XS.iloadN X61.here hx rfl (hb hby at_5) rfl ?_
        show Steps p.tables e below (T61.setTop (mkF m 6 #[.val (.int u0), .val (.int u1), .val (.ref a_ITEM), .unset, .unset, .unset, .unset, .unset, .unset] [(.int u1)])) _
        refine st62 _ ?_
        show Steps p.tables e below (T62.setTop (mkF m 9 #[.val (.int u0), .val (.int u1), .val (.ref a_ITEM), .unset, .unset, .unset, .unset, .unset, .unset] [(.ref a_UPSTREAM)])) _
        refine XS.astoreN X62.here hx rfl (hb hby at_9) rfl rfl (l' := #[.val (.int u0), .val (.int u1), .val (.ref a_ITEM), .val (.ref a_UPSTREAM), .unset, .unset, .unset, .unset, .unset]) rfl ?_
        show Steps p.tables e below (T62.setTop (mkF m 10 #[.val (.int u0), .val (.int u1), .val (.ref a_ITEM), .val (.ref a_UPSTREAM), .unset, .unset, .unset, .unset, .unset] [])) _
        refine XS.aloadN X62.here hx rfl (hb hby at_10) rfl rfl ?_
        show Steps p.tables e below (T62.setTop (mkF m 11 #[.val (.int u0), .val (.int u1), .val (.ref a_ITEM), .val (.ref a_UPSTREAM), .unset, .unset, .unset, .unset, .unset] [(.ref a_ITEM)])) _
        refine st63.trans ?_
        show Steps p.tables e below (T63.setTop (mkF m 14 #[.val (.int u0), .val (.int u1), .val (.ref a_ITEM), .val (.ref a_UPSTREAM), .unset, .unset, .unset, .unset, .unset] [(.ref b63)])) _
        refine XS.astore X63.here hx rfl (hb hby at_14) rfl rfl (l' := #[.val (.int u0), .val (.int u1), .val (.ref a_ITEM), .val (.ref a_UPSTREAM), .val (.ref b63), .unset, .unset, .unset, .unset]) rfl ?_
        show Steps p.tables e below (T63.setTop (mkF m 16 #[.val (.int u0), .val (.int u1), .val (.ref a_ITEM), .val (.ref a_UPSTREAM), .val (.ref b63), .unset, .unset, .unset, .unset] [])) _
        refine XS.aload X63.here hx rfl (hb hby at_16) rfl rfl ?_
        show Steps p.tables e below (T63.setTop (mkF m 18 #[.val (.int u0), .val (.int u1), .val (.ref a_ITEM), .val (.ref a_UPSTREAM), .val (.ref b63), .unset, .unset, .unset, .unset] [(.ref b63)])) _
        refine st64.trans ?_
        show Steps p.tables e below (T64.setTop (mkF m 23 #[.val (.int u0), .val (.int u1), .val (.ref a_ITEM), .val (.ref a_UPSTREAM), .val (.ref b63), .unset, .unset, .unset, .unset] [(.int (1 : Int32))])) _
        refine XS.istore X64.here hx rfl (hb hby at_23) rfl (l' := #[.val (.int u0), .val (.int u1), .val (.ref a_ITEM), .val (.ref a_UPSTREAM), .val (.ref b63), .val (.int (1 : Int32)), .unset, .unset, .unset]) rfl ?_
        show Steps p.tables e below (T64.setTop (mkF m 25 #[.val (.int u0), .val (.int u1), .val (.ref a_ITEM), .val (.ref a_UPSTREAM), .val (.ref b63), .val (.int (1 : Int32)), .unset, .unset, .unset] [])) _
        refine XS.aloadN X64.here hx rfl (hb hby at_25) rfl rfl ?_
        show Steps p.tables e below (T64.setTop (mkF m 26 #[.val (.int u0), .val (.int u1), .val (.ref a_ITEM), .val (.ref a_UPSTREAM), .val (.ref b63), .val (.int (1 : Int32)), .unset, .unset, .unset] [(.ref a_ITEM)])) _
        refine st65 _ ?_
        show Steps p.tables e below (T65.setTop (mkF m 29 #[.val (.int u0), .val (.int u1), .val (.ref a_ITEM), .val (.ref a_UPSTREAM), .val (.ref b63), .val (.int (1 : Int32)), .unset, .unset, .unset] [(.ref a_UPSTREAM), (.ref a_ITEM)])) _
        refine Jvm.RoadKit.acmp (g := (mkF m 29 #[.val (.int u0), .val (.int u1), .val (.ref a_ITEM), .val (.ref a_UPSTREAM), .val (.ref b63), .val (.int (1 : Int32)), .unset, .unset, .unset] [(.ref a_UPSTREAM), (.ref a_ITEM)])) X65 hx rfl rfl rfl (pc0 := 29) (pc' := 36) (same := false) rfl (hb hby at_29) rfl (decide_eq_false fun q => (Ne.symm ne_UPSTREAM_ITEM) (Value.ref.inj q)) (by decide) (by decide) ?_
        show Steps p.tables e below (T65.setTop (mkF m 36 #[.val (.int u0), .val (.int u1), .val (.ref a_ITEM), .val (.ref a_UPSTREAM), .val (.ref b63), .val (.int (1 : Int32)), .unset, .unset, .unset] [])) _
        refine XS.iconst X65.here hx rfl (hb hby at_36) ?_
        show Steps p.tables e below (T65.setTop (mkF m 37 #[.val (.int u0), .val (.int u1), .val (.ref a_ITEM), .val (.ref a_UPSTREAM), .val (.ref b63), .val (.int (1 : Int32)), .unset, .unset, .unset] [(.int (1 : Int32))])) _
        refine XS.istore X65.here hx rfl (hb hby at_37) rfl (l' := #[.val (.int u0), .val (.int u1), .val (.ref a_ITEM), .val (.ref a_UPSTREAM), .val (.ref b63), .val (.int (1 : Int32)), .val (.int (1 : Int32)), .unset, .unset]) rfl ?_
        show Steps p.tables e below (T65.setTop (mkF m 39 #[.val (.int u0), .val (.int u1), .val (.ref a_ITEM), .val (.ref a_UPSTREAM), .val (.ref b63), .val (.int (1 : Int32)), .val (.int (1 : Int32)), .unset, .unset] [])) _
        refine XS.iload X65.here hx rfl (hb hby at_39) rfl ?_
        show Steps p.tables e below (T65.setTop (mkF m 41 #[.val (.int u0), .val (.int u1), .val (.ref a_ITEM), .val (.ref a_UPSTREAM), .val (.ref b63), .val (.int (1 : Int32)), .val (.int (1 : Int32)), .unset, .unset] [(.int (1 : Int32))])) _
        refine XS.iload X65.here hx rfl (hb hby at_41) rfl ?_
        show Steps p.tables e below (T65.setTop (mkF m 43 #[.val (.int u0), .val (.int u1), .val (.ref a_ITEM), .val (.ref a_UPSTREAM), .val (.ref b63), .val (.int (1 : Int32)), .val (.int (1 : Int32)), .unset, .unset] [(.int (1 : Int32)), (.int (1 : Int32))])) _
        refine XS.icmpYes X65.here hx rfl (pc0 := 43) (pc' := 48) rfl (hb hby at_43) rfl (teq (by decide)).1 (by decide) (by decide) ?_
        show Steps p.tables e below (T65.setTop (mkF m 48 #[.val (.int u0), .val (.int u1), .val (.ref a_ITEM), .val (.ref a_UPSTREAM), .val (.ref b63), .val (.int (1 : Int32)), .val (.int (1 : Int32)), .unset, .unset] [])) _
        refine XS.aload X65.here hx rfl (hb hby at_48) rfl rfl ?_
        show Steps p.tables e below (T65.setTop (mkF m 50 #[.val (.int u0), .val (.int u1), .val (.ref a_ITEM), .val (.ref a_UPSTREAM), .val (.ref b63), .val (.int (1 : Int32)), .val (.int (1 : Int32)), .unset, .unset] [(.ref b63)])) _
        refine XS.iconst X65.here hx rfl (hb hby at_50) ?_
        show Steps p.tables e below (T65.setTop (mkF m 51 #[.val (.int u0), .val (.int u1), .val (.ref a_ITEM), .val (.ref a_UPSTREAM), .val (.ref b63), .val (.int (1 : Int32)), .val (.int (1 : Int32)), .unset, .unset] [(.int (0 : Int32)), (.ref b63)])) _
        refine st66.trans ?_
        show Steps p.tables e below (T66.setTop (mkF m 56 #[.val (.int u0), .val (.int u1), .val (.ref a_ITEM), .val (.ref a_UPSTREAM), .val (.ref b63), .val (.int (1 : Int32)), .val (.int (1 : Int32)), .unset, .unset] [(.ref a_ITEM)])) _
        refine XS.aloadN X66.here hx rfl (hb hby at_56) rfl rfl ?_
        show Steps p.tables e below (T66.setTop (mkF m 57 #[.val (.int u0), .val (.int u1), .val (.ref a_ITEM), .val (.ref a_UPSTREAM), .val (.ref b63), .val (.int (1 : Int32)), .val (.int (1 : Int32)), .unset, .unset] [(.ref a_UPSTREAM), (.ref a_ITEM)])) _
        refine Jvm.RoadKit.acmp (g := (mkF m 57 #[.val (.int u0), .val (.int u1), .val (.ref a_ITEM), .val (.ref a_UPSTREAM), .val (.ref b63), .val (.int (1 : Int32)), .val (.int (1 : Int32)), .unset, .unset] [(.ref a_UPSTREAM), (.ref a_ITEM)])) X66 hx rfl rfl rfl (pc0 := 57) (pc' := 60) (same := false) rfl (hb hby at_57) rfl (decide_eq_false fun q => (Ne.symm ne_UPSTREAM_ITEM) (Value.ref.inj q)) (by decide) (by decide) ?_
        show Steps p.tables e below (T66.setTop (mkF m 60 #[.val (.int u0), .val (.int u1), .val (.ref a_ITEM), .val (.ref a_UPSTREAM), .val (.ref b63), .val (.int (1 : Int32)), .val (.int (1 : Int32)), .unset, .unset] [])) _
        refine XS.iload X66.here hx rfl (hb hby at_60) rfl ?_
        show Steps p.tables e below (T66.setTop (mkF m 62 #[.val (.int u0), .val (.int u1), .val (.ref a_ITEM), .val (.ref a_UPSTREAM), .val (.ref b63), .val (.int (1 : Int32)), .val (.int (1 : Int32)), .unset, .unset] [(.int (1 : Int32))])) _
        refine XS.iconst X66.here hx rfl (hb hby at_62) ?_
        show Steps p.tables e below (T66.setTop (mkF m 63 #[.val (.int u0), .val (.int u1), .val (.ref a_ITEM), .val (.ref a_UPSTREAM), .val (.ref b63), .val (.int (1 : Int32)), .val (.int (1 : Int32)), .unset, .unset] [(.int (1 : Int32)), (.int (1 : Int32))])) _
        refine XS.icmpYes X66.here hx rfl (pc0 := 63) (pc' := 82) rfl (hb hby at_63) rfl (flt (by decide)).2.2.2 (by decide) (by decide) ?_
        show Steps p.tables e below (T66.setTop (mkF m 82 #[.val (.int u0), .val (.int u1), .val (.ref a_ITEM), .val (.ref a_UPSTREAM), .val (.ref b63), .val (.int (1 : Int32)), .val (.int (1 : Int32)), .unset, .unset] [])) _
        refine XS.iconst X66.here hx rfl (hb hby at_82) ?_
        show Steps p.tables e below (T66.setTop (mkF m 83 #[.val (.int u0), .val (.int u1), .val (.ref a_ITEM), .val (.ref a_UPSTREAM), .val (.ref b63), .val (.int (1 : Int32)), .val (.int (1 : Int32)), .unset, .unset] [(.int (0 : Int32))])) _
        refine XS.istore X66.here hx rfl (hb hby at_83) rfl (l' := #[.val (.int u0), .val (.int u1), .val (.ref a_ITEM), .val (.ref a_UPSTREAM), .val (.ref b63), .val (.int (1 : Int32)), .val (.int (1 : Int32)), .val (.int (0 : Int32)), .unset]) rfl ?_
        show Steps p.tables e below (T66.setTop (mkF m 85 #[.val (.int u0), .val (.int u1), .val (.ref a_ITEM), .val (.ref a_UPSTREAM), .val (.ref b63), .val (.int (1 : Int32)), .val (.int (1 : Int32)), .val (.int (0 : Int32)), .unset] [])) _
        refine XS.aloadN X66.here hx rfl (hb hby at_85) rfl rfl ?_
        show Steps p.tables e below (T66.setTop (mkF m 86 #[.val (.int u0), .val (.int u1), .val (.ref a_ITEM), .val (.ref a_UPSTREAM), .val (.ref b63), .val (.int (1 : Int32)), .val (.int (1 : Int32)), .val (.int (0 : Int32)), .unset] [(.ref a_UPSTREAM)])) _
        refine st67 _ ?_
        show Steps p.tables e below (T67.setTop (mkF m 89 #[.val (.int u0), .val (.int u1), .val (.ref a_ITEM), .val (.ref a_UPSTREAM), .val (.ref b63), .val (.int (1 : Int32)), .val (.int (1 : Int32)), .val (.int (0 : Int32)), .unset] [(.ref a_UPSTREAM), (.ref a_UPSTREAM)])) _
        refine Jvm.RoadKit.acmp (g := (mkF m 89 #[.val (.int u0), .val (.int u1), .val (.ref a_ITEM), .val (.ref a_UPSTREAM), .val (.ref b63), .val (.int (1 : Int32)), .val (.int (1 : Int32)), .val (.int (0 : Int32)), .unset] [(.ref a_UPSTREAM), (.ref a_UPSTREAM)])) X67 hx rfl rfl rfl (pc0 := 89) (pc' := 108) (same := true) rfl (hb hby at_89) rfl (decide_eq_true rfl) (by decide) (by decide) ?_
        show Steps p.tables e below (T67.setTop (mkF m 108 #[.val (.int u0), .val (.int u1), .val (.ref a_ITEM), .val (.ref a_UPSTREAM), .val (.ref b63), .val (.int (1 : Int32)), .val (.int (1 : Int32)), .val (.int (0 : Int32)), .unset] [])) _
        refine XS.iconst X67.here hx rfl (hb hby at_108) ?_
        show Steps p.tables e below (T67.setTop (mkF m 109 #[.val (.int u0), .val (.int u1), .val (.ref a_ITEM), .val (.ref a_UPSTREAM), .val (.ref b63), .val (.int (1 : Int32)), .val (.int (1 : Int32)), .val (.int (0 : Int32)), .unset] [(.int (0 : Int32))])) _
        refine XS.istore X67.here hx rfl (hb hby at_109) rfl (l' := #[.val (.int u0), .val (.int u1), .val (.ref a_ITEM), .val (.ref a_UPSTREAM), .val (.ref b63), .val (.int (1 : Int32)), .val (.int (1 : Int32)), .val (.int (0 : Int32)), .val (.int (0 : Int32))]) rfl ?_
        show Steps p.tables e below (T67.setTop (mkF m 111 #[.val (.int u0), .val (.int u1), .val (.ref a_ITEM), .val (.ref a_UPSTREAM), .val (.ref b63), .val (.int (1 : Int32)), .val (.int (1 : Int32)), .val (.int (0 : Int32)), .val (.int (0 : Int32))] [])) _
        refine XS.iload X67.here hx rfl (hb hby at_111) rfl ?_
        show Steps p.tables e below (T67.setTop (mkF m 113 #[.val (.int u0), .val (.int u1), .val (.ref a_ITEM), .val (.ref a_UPSTREAM), .val (.ref b63), .val (.int (1 : Int32)), .val (.int (1 : Int32)), .val (.int (0 : Int32)), .val (.int (0 : Int32))] [(.int (0 : Int32))])) _
        refine XS.iload X67.here hx rfl (hb hby at_113) rfl ?_
        show Steps p.tables e below (T67.setTop (mkF m 115 #[.val (.int u0), .val (.int u1), .val (.ref a_ITEM), .val (.ref a_UPSTREAM), .val (.ref b63), .val (.int (1 : Int32)), .val (.int (1 : Int32)), .val (.int (0 : Int32)), .val (.int (0 : Int32))] [(.int (0 : Int32)), (.int (0 : Int32))])) _
        refine XS.icmpYes X67.here hx rfl (pc0 := 115) (pc' := 120) rfl (hb hby at_115) rfl (teq (by decide)).1 (by decide) (by decide) ?_
        show Steps p.tables e below (T67.setTop (mkF m 120 #[.val (.int u0), .val (.int u1), .val (.ref a_ITEM), .val (.ref a_UPSTREAM), .val (.ref b63), .val (.int (1 : Int32)), .val (.int (1 : Int32)), .val (.int (0 : Int32)), .val (.int (0 : Int32))] [])) _
        refine XS.iload X67.here hx rfl (hb hby at_120) rfl ?_
        show Steps p.tables e below (T67.setTop (mkF m 122 #[.val (.int u0), .val (.int u1), .val (.ref a_ITEM), .val (.ref a_UPSTREAM), .val (.ref b63), .val (.int (1 : Int32)), .val (.int (1 : Int32)), .val (.int (0 : Int32)), .val (.int (0 : Int32))] [(.int (1 : Int32))])) _
        refine XS.iconst X67.here hx rfl (hb hby at_122) ?_
        show Steps p.tables e below (T67.setTop (mkF m 123 #[.val (.int u0), .val (.int u1), .val (.ref a_ITEM), .val (.ref a_UPSTREAM), .val (.ref b63), .val (.int (1 : Int32)), .val (.int (1 : Int32)), .val (.int (0 : Int32)), .val (.int (0 : Int32))] [(.int (2 : Int32)), (.int (1 : Int32))])) _
        refine XS.icmpYes X67.here hx rfl (pc0 := 123) (pc' := 156) rfl (hb hby at_123) rfl (feq (by decide)).2 (by decide) (by decide) ?_
        show Steps p.tables e below (T67.setTop (mkF m 156 #[.val (.int u0), .val (.int u1), .val (.ref a_ITEM), .val (.ref a_UPSTREAM), .val (.ref b63), .val (.int (1 : Int32)), .val (.int (1 : Int32)), .val (.int (0 : Int32)), .val (.int (0 : Int32))] [])) _
        refine XS.iconst X67.here hx rfl (hb hby at_156) ?_
        show Steps p.tables e below (T67.setTop (mkF m 157 #[.val (.int u0), .val (.int u1), .val (.ref a_ITEM), .val (.ref a_UPSTREAM), .val (.ref b63), .val (.int (1 : Int32)), .val (.int (1 : Int32)), .val (.int (0 : Int32)), .val (.int (0 : Int32))] [(.int (1 : Int32))])) _
        exact retN X67 hx (t := .boolean) Bd.returns (by simp) (hb hby at_157) hr
      · show Q0 Z u0 u1 a_UPSTREAM a_LIST a_ITEM a_ENDPOINTS a_EMPTY h0 n0 _ T67.heap _
        rw [e67]
        exact ⟨rfl, N66⟩
    · obtain ⟨_, _, ⟨T68, L68, k68, n68⟩, -, X68, ⟨Lc68, hQ68, l68, y68, z68⟩, st68⟩ := Jvm.LawKit.callS X0 hx (y := (⟨"com/example/backfill/backfill/engine/LaneEndpointsPinLaw", "pick", "(I)Lcom/example/backfill/backfill/engine/Lane;"⟩ : MethodName)) hown (mvT hZ (hw _ (List.mem_of_getElem? (i := 0) rfl))) (mvT hZ (hw _ (List.mem_of_getElem? (i := 1) rfl))) (mvT hZ (hw _ (List.mem_of_getElem? (i := 2) rfl))) (mvT hZ (hw _ (List.mem_of_getElem? (i := 3) rfl))) (by decide) (backOf (W := 0) (rm1 l Z a0 hw [] u0 a_UPSTREAM a_LIST a_ITEM h0 n0 Z0 O0 S_UPSTREAM S_LIST S_ITEM) hZ (hw _ (List.mem_of_getElem? (i := 3) rfl)) (hw _ (List.mem_of_getElem? (i := 2) rfl)) (by decide) (by decide)) (g := (mkF m 1 #[.val (.int u0), .val (.int u1), .unset, .unset, .unset, .unset, .unset, .unset, .unset] [(.int u0)])) rfl (by rw [hml]; rfl) (argsL := [(.int u0)]) (rest := []) (lenOf pd_3 rfl) rfl (by show 2 * 0 + _ ≤ _; exact Nat.le_of_eq rfl) (hb hby at_1) (fun _ _ => ⟨rfl, e0, (by decide : 0 + 0 ≤ _), (by decide : 0 + 0 ≤ _)⟩)
      dsimp only [Pt.U, Pt.locs, Pt.cells, Pt.slots] at X68 l68 y68 z68 st68 hQ68
      subst l68 y68 z68
      obtain ⟨hv68, N68q, e68⟩ := hQ68
      rw [hp0] at hv68
      subst hv68
      have N68 := Fr.app N0 N68q
      obtain ⟨_, _, ⟨T69, L69, k69, n69⟩, -, X69, ⟨Lc69, hQ69, l69, y69, z69⟩, st69⟩ := Jvm.LawKit.callS X68 hx (y := (⟨"com/example/backfill/backfill/engine/LaneEndpointsPinLaw", "pick", "(I)Lcom/example/backfill/backfill/engine/Lane;"⟩ : MethodName)) hown (mvT hZ (hw _ (List.mem_of_getElem? (i := 0) rfl))) (mvT hZ (hw _ (List.mem_of_getElem? (i := 1) rfl))) (mvT hZ (hw _ (List.mem_of_getElem? (i := 2) rfl))) (mvT hZ (hw _ (List.mem_of_getElem? (i := 3) rfl))) (by decide) (backOf (W := 0) (rm1 l Z a0 hw [] u1 a_UPSTREAM a_LIST a_ITEM h0 n0 Z0 O0 S_UPSTREAM S_LIST S_ITEM) hZ (hw _ (List.mem_of_getElem? (i := 3) rfl)) (hw _ (List.mem_of_getElem? (i := 2) rfl)) (by decide) (by decide)) (g := (mkF m 6 #[.val (.int u0), .val (.int u1), .val (.ref a_ITEM), .unset, .unset, .unset, .unset, .unset, .unset] [(.int u1)])) rfl (by rw [hml]; rfl) (argsL := [(.int u1)]) (rest := []) (lenOf pd_3 rfl) rfl (by show 2 * 0 + _ ≤ _; exact Nat.le_of_eq rfl) (hb hby at_6) (fun _ _ => ⟨rfl, e68, (by decide : 0 + 0 ≤ _), (by decide : 0 + 0 ≤ _)⟩)
      dsimp only [Pt.U, Pt.locs, Pt.cells, Pt.slots] at X69 l69 y69 z69 st69 hQ69
      subst l69 y69 z69
      obtain ⟨hv69, N69q, e69⟩ := hQ69
      rw [hp1] at hv69
      subst hv69
      have N69 := Fr.app N68 N69q
      obtain ⟨cq70, kq70, q70a, q70b, q70c⟩ := isOf hZ e69 (E_a_ITEM.ext O0.2)
      obtain ⟨_, _, ⟨T70, L70, k70, n70⟩, -, X70, ⟨Lc70, hQ70, l70, y70, z70⟩, st70⟩ := X69.virtualBack hx (y := (⟨"com/example/backfill/backfill/engine/Lane", "endpoints", "()Ljava/util/List;"⟩ : MethodName)) (z := (⟨"com/example/backfill/backfill/engine/Lane", "endpoints", "()Ljava/util/List;"⟩ : MethodName)) hown (mvT hZ (hw _ (List.mem_of_getElem? (i := 8) rfl))) (mvT hZ (hw _ (List.mem_of_getElem? (i := 9) rfl))) (notFace_of_selects (args := #[]) (mvT hZ (hw _ (List.mem_of_getElem? (i := 11) rfl)))) (mvT hZ (hw _ (List.mem_of_getElem? (i := 11) rfl))) (mvT hZ (hw _ (List.mem_of_getElem? (i := 10) rfl))) (by decide) (backOf (W := 0) (rm2N l Z a0 hw [] a_ITEM a_UPSTREAM a_EMPTY h0 n0 Z0 O0 S_UPSTREAM S_EMPTY (Ne.symm ne_UPSTREAM_ITEM)) hZ (hw _ (List.mem_of_getElem? (i := 12) rfl)) (hw _ (List.mem_of_getElem? (i := 6) rfl)) (by decide) (by decide)) q70a q70c (g := (mkF m 11 #[.val (.int u0), .val (.int u1), .val (.ref a_ITEM), .val (.ref a_LIST), .unset, .unset, .unset, .unset, .unset] [(.ref a_ITEM)])) rfl (by rw [hml]; rfl) (Steps.refl _) (argsL := []) (rest := []) (lenOf pd_1 rfl) rfl (by show 2 * 0 + _ ≤ _; exact Nat.le_of_eq rfl) (hb hby at_11) (fun _ _ => ⟨rfl, e69, (by decide : 0 + 1 ≤ _), (by decide : 0 + 2 ≤ _)⟩)
      dsimp only [Pt.U, Pt.locs, Pt.cells, Pt.slots] at X70 l70 y70 z70 st70 hQ70
      subst l70 y70 z70
      obtain ⟨hv70, N70q, K70, A70, F70a, F70b⟩ := hQ70
      obtain ⟨b70, g70⟩ : ∃ z, z = h0.size := ⟨_, rfl⟩
      rw [← g70] at hv70 A70 F70a F70b
      subst hv70
      have g_b70 : n0 ≤ b70 := Nat.le_trans Z0 (Nat.le_of_eq g70.symm)
      have sz_b70 : h0.size ≤ b70 := Nat.le_trans (Keep.refl h0 []).1 (Nat.le_of_eq g70.symm)
      have N70 := Fr.app N69 N70q
      have Z70 : n0 ≤ T70.heap.size := Nat.le_trans Z0 K70.1
      have KK70 := (Keep.refl h0 []).trans K70 all0
      have O70 := O0.keep K70 all0
      obtain ⟨cq71, kq71, q71a, q71b, q71c⟩ := isOf hZ rfl A70
      obtain ⟨_, _, ⟨T71, L71, k71, n71⟩, -, X71, ⟨Lc71, hQ71, l71, y71, z71⟩, st71⟩ := X70.interfaceBack hx (xi := (⟨"java/util/List", "size", "()I"⟩ : MethodName)) (y := (⟨"java/util/ImmutableCollections$List12", "size", "()I"⟩ : MethodName)) hown (mvT hZ (hw _ (List.mem_of_getElem? (i := 16) rfl))) (mvT hZ (hw _ (List.mem_of_getElem? (i := 17) rfl))) (mvT hZ (hw _ (List.mem_of_getElem? (i := 18) rfl))) (mvT hZ (hw _ (List.mem_of_getElem? (i := 19) rfl))) (mvT hZ (hw _ (List.mem_of_getElem? (i := 20) rfl))) (mvT hZ (hw _ (List.mem_of_getElem? (i := 21) rfl))) (mvT hZ (hw _ (List.mem_of_getElem? (i := 22) rfl))) (mvT hZ (hw _ (List.mem_of_getElem? (i := 23) rfl))) (by decide) (backOf (W := 0) (rm3 l Z a0 hw [] b70 a_EMPTY a_EMPTY T70.heap n0 Z70 O70 S_EMPTY F70b) hZ (hw _ (List.mem_of_getElem? (i := 25) rfl)) (hw _ (List.mem_of_getElem? (i := 24) rfl)) (by decide) (by decide)) q71a q71b q71c (g := (mkF m 18 #[.val (.int u0), .val (.int u1), .val (.ref a_ITEM), .val (.ref a_LIST), .val (.ref b70), .unset, .unset, .unset, .unset] [(.ref b70)])) rfl (by rw [hml]; rfl) (Steps.refl _) (argsL := []) (rest := []) (lenOf pd_0 rfl) rfl (by show 2 * 0 + _ ≤ _; exact Nat.le_of_eq rfl) (hb hby at_18) (fun _ _ => ⟨rfl, rfl, (by decide : 1 + 0 ≤ _), (by decide : 2 + 0 ≤ _)⟩)
      dsimp only [Pt.U, Pt.locs, Pt.cells, Pt.slots] at X71 l71 y71 z71 st71 hQ71
      subst l71 y71 z71
      obtain ⟨hv71, N71q, e71⟩ := hQ71
      rw [show sz12 a_EMPTY a_EMPTY = (1 : Int32) from by simp [sz12]] at hv71
      subst hv71
      have N71 := Fr.app N70 N71q
      obtain ⟨T72, X72, e72, st72⟩ := getS2 X71 hx hZ hown (host := "") (Or.inl (hw _ (List.mem_of_getElem? (i := 5) rfl))) Via.refl e71 (S_UPSTREAM.ext O70.2) (g := (mkF m 26 #[.val (.int u0), .val (.int u1), .val (.ref a_ITEM), .val (.ref a_LIST), .val (.ref b70), .val (.int (1 : Int32)), .unset, .unset, .unset] [(.ref a_ITEM)])) rfl (hb hby at_26)
      obtain ⟨cq73, kq73, q73a, q73b, q73c⟩ := isOf hZ e72 A70
      obtain ⟨_, _, ⟨T73, L73, k73, n73⟩, -, X73, ⟨Lc73, hQ73, l73, y73, z73⟩, st73⟩ := X72.interfaceBack hx (xi := (⟨"java/util/List", "get", "(I)Ljava/lang/Object;"⟩ : MethodName)) (y := (⟨"java/util/ImmutableCollections$List12", "get", "(I)Ljava/lang/Object;"⟩ : MethodName)) hown (mvT hZ (hw _ (List.mem_of_getElem? (i := 31) rfl))) (mvT hZ (hw _ (List.mem_of_getElem? (i := 32) rfl))) (mvT hZ (hw _ (List.mem_of_getElem? (i := 33) rfl))) (mvT hZ (hw _ (List.mem_of_getElem? (i := 34) rfl))) (mvT hZ (hw _ (List.mem_of_getElem? (i := 35) rfl))) (mvT hZ (hw _ (List.mem_of_getElem? (i := 36) rfl))) (mvT hZ (hw _ (List.mem_of_getElem? (i := 37) rfl))) (mvT hZ (hw _ (List.mem_of_getElem? (i := 23) rfl))) (by decide) (backOf (W := 0) (rm4a l Z a0 hw [] b70 a_ITEM T70.heap n0 Z70 O70 F70a) hZ (hw _ (List.mem_of_getElem? (i := 38) rfl)) (hw _ (List.mem_of_getElem? (i := 24) rfl)) (by decide) (by decide)) q73a q73b q73c (g := (mkF m 51 #[.val (.int u0), .val (.int u1), .val (.ref a_ITEM), .val (.ref a_LIST), .val (.ref b70), .val (.int (1 : Int32)), .val (.int (1 : Int32)), .unset, .unset] [(.int (0 : Int32)), (.ref b70)])) rfl (by rw [hml]; rfl) (Steps.refl _) (argsL := [(.int (0 : Int32))]) (rest := []) (lenOf pd_4 rfl) rfl (by show 2 * 0 + _ ≤ _; exact Nat.le_of_eq rfl) (hb hby at_51) (fun _ _ => ⟨rfl, e72, (by decide : 1 + 0 ≤ _), (by decide : 2 + 0 ≤ _)⟩)
      dsimp only [Pt.U, Pt.locs, Pt.cells, Pt.slots] at X73 l73 y73 z73 st73 hQ73
      subst l73 y73 z73
      obtain ⟨rfl, N73q, e73⟩ := hQ73
      have N73 := Fr.app N71 N73q
      obtain ⟨T74, X74, e74, st74⟩ := getS2 X73 hx hZ hown (host := "") (Or.inl (hw _ (List.mem_of_getElem? (i := 5) rfl))) Via.refl e73 (S_UPSTREAM.ext O70.2) (g := (mkF m 86 #[.val (.int u0), .val (.int u1), .val (.ref a_ITEM), .val (.ref a_LIST), .val (.ref b70), .val (.int (1 : Int32)), .val (.int (1 : Int32)), .val (.int (0 : Int32)), .unset] [(.ref a_LIST)])) rfl (hb hby at_86)
      obtain ⟨T75, X75, e75, st75⟩ := getS2 X74 hx hZ hown (host := "") (Or.inl (hw _ (List.mem_of_getElem? (i := 5) rfl))) Via.refl e74 (S_UPSTREAM.ext O70.2) (g := (mkF m 93 #[.val (.int u0), .val (.int u1), .val (.ref a_ITEM), .val (.ref a_LIST), .val (.ref b70), .val (.int (1 : Int32)), .val (.int (1 : Int32)), .val (.int (0 : Int32)), .unset] [(.ref a_ITEM)])) rfl (hb hby at_93)
      obtain ⟨fs, hr, hrun, hended, hW, hsame⟩ := X75.leave (v := some (.int (1 : Int32))) (fun h => by rw [Bd.returns] at h; cases h)
      refine ⟨_, _, pre0 _ ?_, hrun, hended, _, _, rfl, ?_, ⟨_, rfl⟩, hW, hsame.mono (by decide) (by decide)⟩
      · show Steps p.tables e below (s₁.setTop (mkF m 0 #[.val (.int u0), .val (.int u1), .unset, .unset, .unset, .unset, .unset, .unset, .unset] [])) _
        refine XS.iloadN X0.here hx rfl (hb hby at_0) rfl ?_
        show Steps p.tables e below (s₁.setTop (mkF m 1 #[.val (.int u0), .val (.int u1), .unset, .unset, .unset, .unset, .unset, .unset, .unset] [(.int u0)])) _
        refine st68 _ ?_
        show Steps p.tables e below (T68.setTop (mkF m 4 #[.val (.int u0), .val (.int u1), .unset, .unset, .unset, .unset, .unset, .unset, .unset] [(.ref a_ITEM)])) _
        refine XS.astoreN X68.here hx rfl (hb hby at_4) rfl rfl (l' := #[.val (.int u0), .val (.int u1), .val (.ref a_ITEM), .unset, .unset, .unset, .unset, .unset, .unset]) rfl ?_
        show Steps p.tables e below (T68.setTop (mkF m 5 #[.val (.int u0), .val (.int u1), .val (.ref a_ITEM), .unset, .unset, .unset, .unset, .unset, .unset] [])) _
        refine XS.iloadN X68.here hx rfl (hb hby at_5) rfl ?_
        show Steps p.tables e below (T68.setTop (mkF m 6 #[.val (.int u0), .val (.int u1), .val (.ref a_ITEM), .unset, .unset, .unset, .unset, .unset, .unset] [(.int u1)])) _
        refine st69 _ ?_
        show Steps p.tables e below (T69.setTop (mkF m 9 #[.val (.int u0), .val (.int u1), .val (.ref a_ITEM), .unset, .unset, .unset, .unset, .unset, .unset] [(.ref a_LIST)])) _
        refine XS.astoreN X69.here hx rfl (hb hby at_9) rfl rfl (l' := #[.val (.int u0), .val (.int u1), .val (.ref a_ITEM), .val (.ref a_LIST), .unset, .unset, .unset, .unset, .unset]) rfl ?_
        show Steps p.tables e below (T69.setTop (mkF m 10 #[.val (.int u0), .val (.int u1), .val (.ref a_ITEM), .val (.ref a_LIST), .unset, .unset, .unset, .unset, .unset] [])) _
        refine XS.aloadN X69.here hx rfl (hb hby at_10) rfl rfl ?_
        show Steps p.tables e below (T69.setTop (mkF m 11 #[.val (.int u0), .val (.int u1), .val (.ref a_ITEM), .val (.ref a_LIST), .unset, .unset, .unset, .unset, .unset] [(.ref a_ITEM)])) _
        refine st70.trans ?_
        show Steps p.tables e below (T70.setTop (mkF m 14 #[.val (.int u0), .val (.int u1), .val (.ref a_ITEM), .val (.ref a_LIST), .unset, .unset, .unset, .unset, .unset] [(.ref b70)])) _
        refine XS.astore X70.here hx rfl (hb hby at_14) rfl rfl (l' := #[.val (.int u0), .val (.int u1), .val (.ref a_ITEM), .val (.ref a_LIST), .val (.ref b70), .unset, .unset, .unset, .unset]) rfl ?_
        show Steps p.tables e below (T70.setTop (mkF m 16 #[.val (.int u0), .val (.int u1), .val (.ref a_ITEM), .val (.ref a_LIST), .val (.ref b70), .unset, .unset, .unset, .unset] [])) _
        refine XS.aload X70.here hx rfl (hb hby at_16) rfl rfl ?_
        show Steps p.tables e below (T70.setTop (mkF m 18 #[.val (.int u0), .val (.int u1), .val (.ref a_ITEM), .val (.ref a_LIST), .val (.ref b70), .unset, .unset, .unset, .unset] [(.ref b70)])) _
        refine st71.trans ?_
        show Steps p.tables e below (T71.setTop (mkF m 23 #[.val (.int u0), .val (.int u1), .val (.ref a_ITEM), .val (.ref a_LIST), .val (.ref b70), .unset, .unset, .unset, .unset] [(.int (1 : Int32))])) _
        refine XS.istore X71.here hx rfl (hb hby at_23) rfl (l' := #[.val (.int u0), .val (.int u1), .val (.ref a_ITEM), .val (.ref a_LIST), .val (.ref b70), .val (.int (1 : Int32)), .unset, .unset, .unset]) rfl ?_
        show Steps p.tables e below (T71.setTop (mkF m 25 #[.val (.int u0), .val (.int u1), .val (.ref a_ITEM), .val (.ref a_LIST), .val (.ref b70), .val (.int (1 : Int32)), .unset, .unset, .unset] [])) _
        refine XS.aloadN X71.here hx rfl (hb hby at_25) rfl rfl ?_
        show Steps p.tables e below (T71.setTop (mkF m 26 #[.val (.int u0), .val (.int u1), .val (.ref a_ITEM), .val (.ref a_LIST), .val (.ref b70), .val (.int (1 : Int32)), .unset, .unset, .unset] [(.ref a_ITEM)])) _
        refine st72 _ ?_
        show Steps p.tables e below (T72.setTop (mkF m 29 #[.val (.int u0), .val (.int u1), .val (.ref a_ITEM), .val (.ref a_LIST), .val (.ref b70), .val (.int (1 : Int32)), .unset, .unset, .unset] [(.ref a_UPSTREAM), (.ref a_ITEM)])) _
        refine Jvm.RoadKit.acmp (g := (mkF m 29 #[.val (.int u0), .val (.int u1), .val (.ref a_ITEM), .val (.ref a_LIST), .val (.ref b70), .val (.int (1 : Int32)), .unset, .unset, .unset] [(.ref a_UPSTREAM), (.ref a_ITEM)])) X72 hx rfl rfl rfl (pc0 := 29) (pc' := 36) (same := false) rfl (hb hby at_29) rfl (decide_eq_false fun q => (Ne.symm ne_UPSTREAM_ITEM) (Value.ref.inj q)) (by decide) (by decide) ?_
        show Steps p.tables e below (T72.setTop (mkF m 36 #[.val (.int u0), .val (.int u1), .val (.ref a_ITEM), .val (.ref a_LIST), .val (.ref b70), .val (.int (1 : Int32)), .unset, .unset, .unset] [])) _
        refine XS.iconst X72.here hx rfl (hb hby at_36) ?_
        show Steps p.tables e below (T72.setTop (mkF m 37 #[.val (.int u0), .val (.int u1), .val (.ref a_ITEM), .val (.ref a_LIST), .val (.ref b70), .val (.int (1 : Int32)), .unset, .unset, .unset] [(.int (1 : Int32))])) _
        refine XS.istore X72.here hx rfl (hb hby at_37) rfl (l' := #[.val (.int u0), .val (.int u1), .val (.ref a_ITEM), .val (.ref a_LIST), .val (.ref b70), .val (.int (1 : Int32)), .val (.int (1 : Int32)), .unset, .unset]) rfl ?_
        show Steps p.tables e below (T72.setTop (mkF m 39 #[.val (.int u0), .val (.int u1), .val (.ref a_ITEM), .val (.ref a_LIST), .val (.ref b70), .val (.int (1 : Int32)), .val (.int (1 : Int32)), .unset, .unset] [])) _
        refine XS.iload X72.here hx rfl (hb hby at_39) rfl ?_
        show Steps p.tables e below (T72.setTop (mkF m 41 #[.val (.int u0), .val (.int u1), .val (.ref a_ITEM), .val (.ref a_LIST), .val (.ref b70), .val (.int (1 : Int32)), .val (.int (1 : Int32)), .unset, .unset] [(.int (1 : Int32))])) _
        refine XS.iload X72.here hx rfl (hb hby at_41) rfl ?_
        show Steps p.tables e below (T72.setTop (mkF m 43 #[.val (.int u0), .val (.int u1), .val (.ref a_ITEM), .val (.ref a_LIST), .val (.ref b70), .val (.int (1 : Int32)), .val (.int (1 : Int32)), .unset, .unset] [(.int (1 : Int32)), (.int (1 : Int32))])) _
        refine XS.icmpYes X72.here hx rfl (pc0 := 43) (pc' := 48) rfl (hb hby at_43) rfl (teq (by decide)).1 (by decide) (by decide) ?_
        show Steps p.tables e below (T72.setTop (mkF m 48 #[.val (.int u0), .val (.int u1), .val (.ref a_ITEM), .val (.ref a_LIST), .val (.ref b70), .val (.int (1 : Int32)), .val (.int (1 : Int32)), .unset, .unset] [])) _
        refine XS.aload X72.here hx rfl (hb hby at_48) rfl rfl ?_
        show Steps p.tables e below (T72.setTop (mkF m 50 #[.val (.int u0), .val (.int u1), .val (.ref a_ITEM), .val (.ref a_LIST), .val (.ref b70), .val (.int (1 : Int32)), .val (.int (1 : Int32)), .unset, .unset] [(.ref b70)])) _
        refine XS.iconst X72.here hx rfl (hb hby at_50) ?_
        show Steps p.tables e below (T72.setTop (mkF m 51 #[.val (.int u0), .val (.int u1), .val (.ref a_ITEM), .val (.ref a_LIST), .val (.ref b70), .val (.int (1 : Int32)), .val (.int (1 : Int32)), .unset, .unset] [(.int (0 : Int32)), (.ref b70)])) _
        refine st73.trans ?_
        show Steps p.tables e below (T73.setTop (mkF m 56 #[.val (.int u0), .val (.int u1), .val (.ref a_ITEM), .val (.ref a_LIST), .val (.ref b70), .val (.int (1 : Int32)), .val (.int (1 : Int32)), .unset, .unset] [(.ref a_ITEM)])) _
        refine XS.aloadN X73.here hx rfl (hb hby at_56) rfl rfl ?_
        show Steps p.tables e below (T73.setTop (mkF m 57 #[.val (.int u0), .val (.int u1), .val (.ref a_ITEM), .val (.ref a_LIST), .val (.ref b70), .val (.int (1 : Int32)), .val (.int (1 : Int32)), .unset, .unset] [(.ref a_LIST), (.ref a_ITEM)])) _
        refine Jvm.RoadKit.acmp (g := (mkF m 57 #[.val (.int u0), .val (.int u1), .val (.ref a_ITEM), .val (.ref a_LIST), .val (.ref b70), .val (.int (1 : Int32)), .val (.int (1 : Int32)), .unset, .unset] [(.ref a_LIST), (.ref a_ITEM)])) X73 hx rfl rfl rfl (pc0 := 57) (pc' := 60) (same := false) rfl (hb hby at_57) rfl (decide_eq_false fun q => (Ne.symm ne_LIST_ITEM) (Value.ref.inj q)) (by decide) (by decide) ?_
        show Steps p.tables e below (T73.setTop (mkF m 60 #[.val (.int u0), .val (.int u1), .val (.ref a_ITEM), .val (.ref a_LIST), .val (.ref b70), .val (.int (1 : Int32)), .val (.int (1 : Int32)), .unset, .unset] [])) _
        refine XS.iload X73.here hx rfl (hb hby at_60) rfl ?_
        show Steps p.tables e below (T73.setTop (mkF m 62 #[.val (.int u0), .val (.int u1), .val (.ref a_ITEM), .val (.ref a_LIST), .val (.ref b70), .val (.int (1 : Int32)), .val (.int (1 : Int32)), .unset, .unset] [(.int (1 : Int32))])) _
        refine XS.iconst X73.here hx rfl (hb hby at_62) ?_
        show Steps p.tables e below (T73.setTop (mkF m 63 #[.val (.int u0), .val (.int u1), .val (.ref a_ITEM), .val (.ref a_LIST), .val (.ref b70), .val (.int (1 : Int32)), .val (.int (1 : Int32)), .unset, .unset] [(.int (1 : Int32)), (.int (1 : Int32))])) _
        refine XS.icmpYes X73.here hx rfl (pc0 := 63) (pc' := 82) rfl (hb hby at_63) rfl (flt (by decide)).2.2.2 (by decide) (by decide) ?_
        show Steps p.tables e below (T73.setTop (mkF m 82 #[.val (.int u0), .val (.int u1), .val (.ref a_ITEM), .val (.ref a_LIST), .val (.ref b70), .val (.int (1 : Int32)), .val (.int (1 : Int32)), .unset, .unset] [])) _
        refine XS.iconst X73.here hx rfl (hb hby at_82) ?_
        show Steps p.tables e below (T73.setTop (mkF m 83 #[.val (.int u0), .val (.int u1), .val (.ref a_ITEM), .val (.ref a_LIST), .val (.ref b70), .val (.int (1 : Int32)), .val (.int (1 : Int32)), .unset, .unset] [(.int (0 : Int32))])) _
        refine XS.istore X73.here hx rfl (hb hby at_83) rfl (l' := #[.val (.int u0), .val (.int u1), .val (.ref a_ITEM), .val (.ref a_LIST), .val (.ref b70), .val (.int (1 : Int32)), .val (.int (1 : Int32)), .val (.int (0 : Int32)), .unset]) rfl ?_
        show Steps p.tables e below (T73.setTop (mkF m 85 #[.val (.int u0), .val (.int u1), .val (.ref a_ITEM), .val (.ref a_LIST), .val (.ref b70), .val (.int (1 : Int32)), .val (.int (1 : Int32)), .val (.int (0 : Int32)), .unset] [])) _
        refine XS.aloadN X73.here hx rfl (hb hby at_85) rfl rfl ?_
        show Steps p.tables e below (T73.setTop (mkF m 86 #[.val (.int u0), .val (.int u1), .val (.ref a_ITEM), .val (.ref a_LIST), .val (.ref b70), .val (.int (1 : Int32)), .val (.int (1 : Int32)), .val (.int (0 : Int32)), .unset] [(.ref a_LIST)])) _
        refine st74 _ ?_
        show Steps p.tables e below (T74.setTop (mkF m 89 #[.val (.int u0), .val (.int u1), .val (.ref a_ITEM), .val (.ref a_LIST), .val (.ref b70), .val (.int (1 : Int32)), .val (.int (1 : Int32)), .val (.int (0 : Int32)), .unset] [(.ref a_UPSTREAM), (.ref a_LIST)])) _
        refine Jvm.RoadKit.acmp (g := (mkF m 89 #[.val (.int u0), .val (.int u1), .val (.ref a_ITEM), .val (.ref a_LIST), .val (.ref b70), .val (.int (1 : Int32)), .val (.int (1 : Int32)), .val (.int (0 : Int32)), .unset] [(.ref a_UPSTREAM), (.ref a_LIST)])) X74 hx rfl rfl rfl (pc0 := 89) (pc' := 92) (same := false) rfl (hb hby at_89) rfl (decide_eq_false fun q => (Ne.symm ne_UPSTREAM_LIST) (Value.ref.inj q)) (by decide) (by decide) ?_
        show Steps p.tables e below (T74.setTop (mkF m 92 #[.val (.int u0), .val (.int u1), .val (.ref a_ITEM), .val (.ref a_LIST), .val (.ref b70), .val (.int (1 : Int32)), .val (.int (1 : Int32)), .val (.int (0 : Int32)), .unset] [])) _
        refine XS.aloadN X74.here hx rfl (hb hby at_92) rfl rfl ?_
        show Steps p.tables e below (T74.setTop (mkF m 93 #[.val (.int u0), .val (.int u1), .val (.ref a_ITEM), .val (.ref a_LIST), .val (.ref b70), .val (.int (1 : Int32)), .val (.int (1 : Int32)), .val (.int (0 : Int32)), .unset] [(.ref a_ITEM)])) _
        refine st75 _ ?_
        show Steps p.tables e below (T75.setTop (mkF m 96 #[.val (.int u0), .val (.int u1), .val (.ref a_ITEM), .val (.ref a_LIST), .val (.ref b70), .val (.int (1 : Int32)), .val (.int (1 : Int32)), .val (.int (0 : Int32)), .unset] [(.ref a_UPSTREAM), (.ref a_ITEM)])) _
        refine Jvm.RoadKit.acmp (g := (mkF m 96 #[.val (.int u0), .val (.int u1), .val (.ref a_ITEM), .val (.ref a_LIST), .val (.ref b70), .val (.int (1 : Int32)), .val (.int (1 : Int32)), .val (.int (0 : Int32)), .unset] [(.ref a_UPSTREAM), (.ref a_ITEM)])) X75 hx rfl rfl rfl (pc0 := 96) (pc' := 99) (same := false) rfl (hb hby at_96) rfl (decide_eq_false fun q => (Ne.symm ne_UPSTREAM_ITEM) (Value.ref.inj q)) (by decide) (by decide) ?_
        show Steps p.tables e below (T75.setTop (mkF m 99 #[.val (.int u0), .val (.int u1), .val (.ref a_ITEM), .val (.ref a_LIST), .val (.ref b70), .val (.int (1 : Int32)), .val (.int (1 : Int32)), .val (.int (0 : Int32)), .unset] [])) _
        refine XS.aloadN X75.here hx rfl (hb hby at_99) rfl rfl ?_
        show Steps p.tables e below (T75.setTop (mkF m 100 #[.val (.int u0), .val (.int u1), .val (.ref a_ITEM), .val (.ref a_LIST), .val (.ref b70), .val (.int (1 : Int32)), .val (.int (1 : Int32)), .val (.int (0 : Int32)), .unset] [(.ref a_ITEM)])) _
        refine XS.aloadN X75.here hx rfl (hb hby at_100) rfl rfl ?_
        show Steps p.tables e below (T75.setTop (mkF m 101 #[.val (.int u0), .val (.int u1), .val (.ref a_ITEM), .val (.ref a_LIST), .val (.ref b70), .val (.int (1 : Int32)), .val (.int (1 : Int32)), .val (.int (0 : Int32)), .unset] [(.ref a_LIST), (.ref a_ITEM)])) _
        refine Jvm.RoadKit.acmp (g := (mkF m 101 #[.val (.int u0), .val (.int u1), .val (.ref a_ITEM), .val (.ref a_LIST), .val (.ref b70), .val (.int (1 : Int32)), .val (.int (1 : Int32)), .val (.int (0 : Int32)), .unset] [(.ref a_LIST), (.ref a_ITEM)])) X75 hx rfl rfl rfl (pc0 := 101) (pc' := 108) (same := false) rfl (hb hby at_101) rfl (decide_eq_false fun q => (Ne.symm ne_LIST_ITEM) (Value.ref.inj q)) (by decide) (by decide) ?_
        show Steps p.tables e below (T75.setTop (mkF m 108 #[.val (.int u0), .val (.int u1), .val (.ref a_ITEM), .val (.ref a_LIST), .val (.ref b70), .val (.int (1 : Int32)), .val (.int (1 : Int32)), .val (.int (0 : Int32)), .unset] [])) _
        refine XS.iconst X75.here hx rfl (hb hby at_108) ?_
        show Steps p.tables e below (T75.setTop (mkF m 109 #[.val (.int u0), .val (.int u1), .val (.ref a_ITEM), .val (.ref a_LIST), .val (.ref b70), .val (.int (1 : Int32)), .val (.int (1 : Int32)), .val (.int (0 : Int32)), .unset] [(.int (0 : Int32))])) _
        refine XS.istore X75.here hx rfl (hb hby at_109) rfl (l' := #[.val (.int u0), .val (.int u1), .val (.ref a_ITEM), .val (.ref a_LIST), .val (.ref b70), .val (.int (1 : Int32)), .val (.int (1 : Int32)), .val (.int (0 : Int32)), .val (.int (0 : Int32))]) rfl ?_
        show Steps p.tables e below (T75.setTop (mkF m 111 #[.val (.int u0), .val (.int u1), .val (.ref a_ITEM), .val (.ref a_LIST), .val (.ref b70), .val (.int (1 : Int32)), .val (.int (1 : Int32)), .val (.int (0 : Int32)), .val (.int (0 : Int32))] [])) _
        refine XS.iload X75.here hx rfl (hb hby at_111) rfl ?_
        show Steps p.tables e below (T75.setTop (mkF m 113 #[.val (.int u0), .val (.int u1), .val (.ref a_ITEM), .val (.ref a_LIST), .val (.ref b70), .val (.int (1 : Int32)), .val (.int (1 : Int32)), .val (.int (0 : Int32)), .val (.int (0 : Int32))] [(.int (0 : Int32))])) _
        refine XS.iload X75.here hx rfl (hb hby at_113) rfl ?_
        show Steps p.tables e below (T75.setTop (mkF m 115 #[.val (.int u0), .val (.int u1), .val (.ref a_ITEM), .val (.ref a_LIST), .val (.ref b70), .val (.int (1 : Int32)), .val (.int (1 : Int32)), .val (.int (0 : Int32)), .val (.int (0 : Int32))] [(.int (0 : Int32)), (.int (0 : Int32))])) _
        refine XS.icmpYes X75.here hx rfl (pc0 := 115) (pc' := 120) rfl (hb hby at_115) rfl (teq (by decide)).1 (by decide) (by decide) ?_
        show Steps p.tables e below (T75.setTop (mkF m 120 #[.val (.int u0), .val (.int u1), .val (.ref a_ITEM), .val (.ref a_LIST), .val (.ref b70), .val (.int (1 : Int32)), .val (.int (1 : Int32)), .val (.int (0 : Int32)), .val (.int (0 : Int32))] [])) _
        refine XS.iload X75.here hx rfl (hb hby at_120) rfl ?_
        show Steps p.tables e below (T75.setTop (mkF m 122 #[.val (.int u0), .val (.int u1), .val (.ref a_ITEM), .val (.ref a_LIST), .val (.ref b70), .val (.int (1 : Int32)), .val (.int (1 : Int32)), .val (.int (0 : Int32)), .val (.int (0 : Int32))] [(.int (1 : Int32))])) _
        refine XS.iconst X75.here hx rfl (hb hby at_122) ?_
        show Steps p.tables e below (T75.setTop (mkF m 123 #[.val (.int u0), .val (.int u1), .val (.ref a_ITEM), .val (.ref a_LIST), .val (.ref b70), .val (.int (1 : Int32)), .val (.int (1 : Int32)), .val (.int (0 : Int32)), .val (.int (0 : Int32))] [(.int (2 : Int32)), (.int (1 : Int32))])) _
        refine XS.icmpYes X75.here hx rfl (pc0 := 123) (pc' := 156) rfl (hb hby at_123) rfl (feq (by decide)).2 (by decide) (by decide) ?_
        show Steps p.tables e below (T75.setTop (mkF m 156 #[.val (.int u0), .val (.int u1), .val (.ref a_ITEM), .val (.ref a_LIST), .val (.ref b70), .val (.int (1 : Int32)), .val (.int (1 : Int32)), .val (.int (0 : Int32)), .val (.int (0 : Int32))] [])) _
        refine XS.iconst X75.here hx rfl (hb hby at_156) ?_
        show Steps p.tables e below (T75.setTop (mkF m 157 #[.val (.int u0), .val (.int u1), .val (.ref a_ITEM), .val (.ref a_LIST), .val (.ref b70), .val (.int (1 : Int32)), .val (.int (1 : Int32)), .val (.int (0 : Int32)), .val (.int (0 : Int32))] [(.int (1 : Int32))])) _
        exact retN X75 hx (t := .boolean) Bd.returns (by simp) (hb hby at_157) hr
      · show Q0 Z u0 u1 a_UPSTREAM a_LIST a_ITEM a_ENDPOINTS a_EMPTY h0 n0 _ T75.heap _
        rw [e75]
        exact ⟨rfl, N73⟩
    · obtain ⟨_, _, ⟨T76, L76, k76, n76⟩, -, X76, ⟨Lc76, hQ76, l76, y76, z76⟩, st76⟩ := Jvm.LawKit.callS X0 hx (y := (⟨"com/example/backfill/backfill/engine/LaneEndpointsPinLaw", "pick", "(I)Lcom/example/backfill/backfill/engine/Lane;"⟩ : MethodName)) hown (mvT hZ (hw _ (List.mem_of_getElem? (i := 0) rfl))) (mvT hZ (hw _ (List.mem_of_getElem? (i := 1) rfl))) (mvT hZ (hw _ (List.mem_of_getElem? (i := 2) rfl))) (mvT hZ (hw _ (List.mem_of_getElem? (i := 3) rfl))) (by decide) (backOf (W := 0) (rm1 l Z a0 hw [] u0 a_UPSTREAM a_LIST a_ITEM h0 n0 Z0 O0 S_UPSTREAM S_LIST S_ITEM) hZ (hw _ (List.mem_of_getElem? (i := 3) rfl)) (hw _ (List.mem_of_getElem? (i := 2) rfl)) (by decide) (by decide)) (g := (mkF m 1 #[.val (.int u0), .val (.int u1), .unset, .unset, .unset, .unset, .unset, .unset, .unset] [(.int u0)])) rfl (by rw [hml]; rfl) (argsL := [(.int u0)]) (rest := []) (lenOf pd_3 rfl) rfl (by show 2 * 0 + _ ≤ _; exact Nat.le_of_eq rfl) (hb hby at_1) (fun _ _ => ⟨rfl, e0, (by decide : 0 + 0 ≤ _), (by decide : 0 + 0 ≤ _)⟩)
      dsimp only [Pt.U, Pt.locs, Pt.cells, Pt.slots] at X76 l76 y76 z76 st76 hQ76
      subst l76 y76 z76
      obtain ⟨hv76, N76q, e76⟩ := hQ76
      rw [hp0] at hv76
      subst hv76
      have N76 := Fr.app N0 N76q
      obtain ⟨_, _, ⟨T77, L77, k77, n77⟩, -, X77, ⟨Lc77, hQ77, l77, y77, z77⟩, st77⟩ := Jvm.LawKit.callS X76 hx (y := (⟨"com/example/backfill/backfill/engine/LaneEndpointsPinLaw", "pick", "(I)Lcom/example/backfill/backfill/engine/Lane;"⟩ : MethodName)) hown (mvT hZ (hw _ (List.mem_of_getElem? (i := 0) rfl))) (mvT hZ (hw _ (List.mem_of_getElem? (i := 1) rfl))) (mvT hZ (hw _ (List.mem_of_getElem? (i := 2) rfl))) (mvT hZ (hw _ (List.mem_of_getElem? (i := 3) rfl))) (by decide) (backOf (W := 0) (rm1 l Z a0 hw [] u1 a_UPSTREAM a_LIST a_ITEM h0 n0 Z0 O0 S_UPSTREAM S_LIST S_ITEM) hZ (hw _ (List.mem_of_getElem? (i := 3) rfl)) (hw _ (List.mem_of_getElem? (i := 2) rfl)) (by decide) (by decide)) (g := (mkF m 6 #[.val (.int u0), .val (.int u1), .val (.ref a_ITEM), .unset, .unset, .unset, .unset, .unset, .unset] [(.int u1)])) rfl (by rw [hml]; rfl) (argsL := [(.int u1)]) (rest := []) (lenOf pd_3 rfl) rfl (by show 2 * 0 + _ ≤ _; exact Nat.le_of_eq rfl) (hb hby at_6) (fun _ _ => ⟨rfl, e76, (by decide : 0 + 0 ≤ _), (by decide : 0 + 0 ≤ _)⟩)
      dsimp only [Pt.U, Pt.locs, Pt.cells, Pt.slots] at X77 l77 y77 z77 st77 hQ77
      subst l77 y77 z77
      obtain ⟨hv77, N77q, e77⟩ := hQ77
      rw [hp1] at hv77
      subst hv77
      have N77 := Fr.app N76 N77q
      obtain ⟨cq78, kq78, q78a, q78b, q78c⟩ := isOf hZ e77 (E_a_ITEM.ext O0.2)
      obtain ⟨_, _, ⟨T78, L78, k78, n78⟩, -, X78, ⟨Lc78, hQ78, l78, y78, z78⟩, st78⟩ := X77.virtualBack hx (y := (⟨"com/example/backfill/backfill/engine/Lane", "endpoints", "()Ljava/util/List;"⟩ : MethodName)) (z := (⟨"com/example/backfill/backfill/engine/Lane", "endpoints", "()Ljava/util/List;"⟩ : MethodName)) hown (mvT hZ (hw _ (List.mem_of_getElem? (i := 8) rfl))) (mvT hZ (hw _ (List.mem_of_getElem? (i := 9) rfl))) (notFace_of_selects (args := #[]) (mvT hZ (hw _ (List.mem_of_getElem? (i := 11) rfl)))) (mvT hZ (hw _ (List.mem_of_getElem? (i := 11) rfl))) (mvT hZ (hw _ (List.mem_of_getElem? (i := 10) rfl))) (by decide) (backOf (W := 0) (rm2N l Z a0 hw [] a_ITEM a_UPSTREAM a_EMPTY h0 n0 Z0 O0 S_UPSTREAM S_EMPTY (Ne.symm ne_UPSTREAM_ITEM)) hZ (hw _ (List.mem_of_getElem? (i := 12) rfl)) (hw _ (List.mem_of_getElem? (i := 6) rfl)) (by decide) (by decide)) q78a q78c (g := (mkF m 11 #[.val (.int u0), .val (.int u1), .val (.ref a_ITEM), .val (.ref a_ITEM), .unset, .unset, .unset, .unset, .unset] [(.ref a_ITEM)])) rfl (by rw [hml]; rfl) (Steps.refl _) (argsL := []) (rest := []) (lenOf pd_1 rfl) rfl (by show 2 * 0 + _ ≤ _; exact Nat.le_of_eq rfl) (hb hby at_11) (fun _ _ => ⟨rfl, e77, (by decide : 0 + 1 ≤ _), (by decide : 0 + 2 ≤ _)⟩)
      dsimp only [Pt.U, Pt.locs, Pt.cells, Pt.slots] at X78 l78 y78 z78 st78 hQ78
      subst l78 y78 z78
      obtain ⟨hv78, N78q, K78, A78, F78a, F78b⟩ := hQ78
      obtain ⟨b78, g78⟩ : ∃ z, z = h0.size := ⟨_, rfl⟩
      rw [← g78] at hv78 A78 F78a F78b
      subst hv78
      have g_b78 : n0 ≤ b78 := Nat.le_trans Z0 (Nat.le_of_eq g78.symm)
      have sz_b78 : h0.size ≤ b78 := Nat.le_trans (Keep.refl h0 []).1 (Nat.le_of_eq g78.symm)
      have N78 := Fr.app N77 N78q
      have Z78 : n0 ≤ T78.heap.size := Nat.le_trans Z0 K78.1
      have KK78 := (Keep.refl h0 []).trans K78 all0
      have O78 := O0.keep K78 all0
      obtain ⟨cq79, kq79, q79a, q79b, q79c⟩ := isOf hZ rfl A78
      obtain ⟨_, _, ⟨T79, L79, k79, n79⟩, -, X79, ⟨Lc79, hQ79, l79, y79, z79⟩, st79⟩ := X78.interfaceBack hx (xi := (⟨"java/util/List", "size", "()I"⟩ : MethodName)) (y := (⟨"java/util/ImmutableCollections$List12", "size", "()I"⟩ : MethodName)) hown (mvT hZ (hw _ (List.mem_of_getElem? (i := 16) rfl))) (mvT hZ (hw _ (List.mem_of_getElem? (i := 17) rfl))) (mvT hZ (hw _ (List.mem_of_getElem? (i := 18) rfl))) (mvT hZ (hw _ (List.mem_of_getElem? (i := 19) rfl))) (mvT hZ (hw _ (List.mem_of_getElem? (i := 20) rfl))) (mvT hZ (hw _ (List.mem_of_getElem? (i := 21) rfl))) (mvT hZ (hw _ (List.mem_of_getElem? (i := 22) rfl))) (mvT hZ (hw _ (List.mem_of_getElem? (i := 23) rfl))) (by decide) (backOf (W := 0) (rm3 l Z a0 hw [] b78 a_EMPTY a_EMPTY T78.heap n0 Z78 O78 S_EMPTY F78b) hZ (hw _ (List.mem_of_getElem? (i := 25) rfl)) (hw _ (List.mem_of_getElem? (i := 24) rfl)) (by decide) (by decide)) q79a q79b q79c (g := (mkF m 18 #[.val (.int u0), .val (.int u1), .val (.ref a_ITEM), .val (.ref a_ITEM), .val (.ref b78), .unset, .unset, .unset, .unset] [(.ref b78)])) rfl (by rw [hml]; rfl) (Steps.refl _) (argsL := []) (rest := []) (lenOf pd_0 rfl) rfl (by show 2 * 0 + _ ≤ _; exact Nat.le_of_eq rfl) (hb hby at_18) (fun _ _ => ⟨rfl, rfl, (by decide : 1 + 0 ≤ _), (by decide : 2 + 0 ≤ _)⟩)
      dsimp only [Pt.U, Pt.locs, Pt.cells, Pt.slots] at X79 l79 y79 z79 st79 hQ79
      subst l79 y79 z79
      obtain ⟨hv79, N79q, e79⟩ := hQ79
      rw [show sz12 a_EMPTY a_EMPTY = (1 : Int32) from by simp [sz12]] at hv79
      subst hv79
      have N79 := Fr.app N78 N79q
      obtain ⟨T80, X80, e80, st80⟩ := getS2 X79 hx hZ hown (host := "") (Or.inl (hw _ (List.mem_of_getElem? (i := 5) rfl))) Via.refl e79 (S_UPSTREAM.ext O78.2) (g := (mkF m 26 #[.val (.int u0), .val (.int u1), .val (.ref a_ITEM), .val (.ref a_ITEM), .val (.ref b78), .val (.int (1 : Int32)), .unset, .unset, .unset] [(.ref a_ITEM)])) rfl (hb hby at_26)
      obtain ⟨cq81, kq81, q81a, q81b, q81c⟩ := isOf hZ e80 A78
      obtain ⟨_, _, ⟨T81, L81, k81, n81⟩, -, X81, ⟨Lc81, hQ81, l81, y81, z81⟩, st81⟩ := X80.interfaceBack hx (xi := (⟨"java/util/List", "get", "(I)Ljava/lang/Object;"⟩ : MethodName)) (y := (⟨"java/util/ImmutableCollections$List12", "get", "(I)Ljava/lang/Object;"⟩ : MethodName)) hown (mvT hZ (hw _ (List.mem_of_getElem? (i := 31) rfl))) (mvT hZ (hw _ (List.mem_of_getElem? (i := 32) rfl))) (mvT hZ (hw _ (List.mem_of_getElem? (i := 33) rfl))) (mvT hZ (hw _ (List.mem_of_getElem? (i := 34) rfl))) (mvT hZ (hw _ (List.mem_of_getElem? (i := 35) rfl))) (mvT hZ (hw _ (List.mem_of_getElem? (i := 36) rfl))) (mvT hZ (hw _ (List.mem_of_getElem? (i := 37) rfl))) (mvT hZ (hw _ (List.mem_of_getElem? (i := 23) rfl))) (by decide) (backOf (W := 0) (rm4a l Z a0 hw [] b78 a_ITEM T78.heap n0 Z78 O78 F78a) hZ (hw _ (List.mem_of_getElem? (i := 38) rfl)) (hw _ (List.mem_of_getElem? (i := 24) rfl)) (by decide) (by decide)) q81a q81b q81c (g := (mkF m 51 #[.val (.int u0), .val (.int u1), .val (.ref a_ITEM), .val (.ref a_ITEM), .val (.ref b78), .val (.int (1 : Int32)), .val (.int (1 : Int32)), .unset, .unset] [(.int (0 : Int32)), (.ref b78)])) rfl (by rw [hml]; rfl) (Steps.refl _) (argsL := [(.int (0 : Int32))]) (rest := []) (lenOf pd_4 rfl) rfl (by show 2 * 0 + _ ≤ _; exact Nat.le_of_eq rfl) (hb hby at_51) (fun _ _ => ⟨rfl, e80, (by decide : 1 + 0 ≤ _), (by decide : 2 + 0 ≤ _)⟩)
      dsimp only [Pt.U, Pt.locs, Pt.cells, Pt.slots] at X81 l81 y81 z81 st81 hQ81
      subst l81 y81 z81
      obtain ⟨rfl, N81q, e81⟩ := hQ81
      have N81 := Fr.app N79 N81q
      obtain ⟨T82, X82, e82, st82⟩ := getS2 X81 hx hZ hown (host := "") (Or.inl (hw _ (List.mem_of_getElem? (i := 5) rfl))) Via.refl e81 (S_UPSTREAM.ext O78.2) (g := (mkF m 86 #[.val (.int u0), .val (.int u1), .val (.ref a_ITEM), .val (.ref a_ITEM), .val (.ref b78), .val (.int (1 : Int32)), .val (.int (1 : Int32)), .val (.int (1 : Int32)), .unset] [(.ref a_ITEM)])) rfl (hb hby at_86)
      obtain ⟨T83, X83, e83, st83⟩ := getS2 X82 hx hZ hown (host := "") (Or.inl (hw _ (List.mem_of_getElem? (i := 5) rfl))) Via.refl e82 (S_UPSTREAM.ext O78.2) (g := (mkF m 93 #[.val (.int u0), .val (.int u1), .val (.ref a_ITEM), .val (.ref a_ITEM), .val (.ref b78), .val (.int (1 : Int32)), .val (.int (1 : Int32)), .val (.int (1 : Int32)), .unset] [(.ref a_ITEM)])) rfl (hb hby at_93)
      obtain ⟨fs, hr, hrun, hended, hW, hsame⟩ := X83.leave (v := some (.int (1 : Int32))) (fun h => by rw [Bd.returns] at h; cases h)
      refine ⟨_, _, pre0 _ ?_, hrun, hended, _, _, rfl, ?_, ⟨_, rfl⟩, hW, hsame.mono (by decide) (by decide)⟩
      · show Steps p.tables e below (s₁.setTop (mkF m 0 #[.val (.int u0), .val (.int u1), .unset, .unset, .unset, .unset, .unset, .unset, .unset] [])) _
        refine XS.iloadN X0.here hx rfl (hb hby at_0) rfl ?_
        show Steps p.tables e below (s₁.setTop (mkF m 1 #[.val (.int u0), .val (.int u1), .unset, .unset, .unset, .unset, .unset, .unset, .unset] [(.int u0)])) _
        refine st76 _ ?_
        show Steps p.tables e below (T76.setTop (mkF m 4 #[.val (.int u0), .val (.int u1), .unset, .unset, .unset, .unset, .unset, .unset, .unset] [(.ref a_ITEM)])) _
        refine XS.astoreN X76.here hx rfl (hb hby at_4) rfl rfl (l' := #[.val (.int u0), .val (.int u1), .val (.ref a_ITEM), .unset, .unset, .unset, .unset, .unset, .unset]) rfl ?_
        show Steps p.tables e below (T76.setTop (mkF m 5 #[.val (.int u0), .val (.int u1), .val (.ref a_ITEM), .unset, .unset, .unset, .unset, .unset, .unset] [])) _
        refine XS.iloadN X76.here hx rfl (hb hby at_5) rfl ?_
        show Steps p.tables e below (T76.setTop (mkF m 6 #[.val (.int u0), .val (.int u1), .val (.ref a_ITEM), .unset, .unset, .unset, .unset, .unset, .unset] [(.int u1)])) _
        refine st77 _ ?_
        show Steps p.tables e below (T77.setTop (mkF m 9 #[.val (.int u0), .val (.int u1), .val (.ref a_ITEM), .unset, .unset, .unset, .unset, .unset, .unset] [(.ref a_ITEM)])) _
        refine XS.astoreN X77.here hx rfl (hb hby at_9) rfl rfl (l' := #[.val (.int u0), .val (.int u1), .val (.ref a_ITEM), .val (.ref a_ITEM), .unset, .unset, .unset, .unset, .unset]) rfl ?_
        show Steps p.tables e below (T77.setTop (mkF m 10 #[.val (.int u0), .val (.int u1), .val (.ref a_ITEM), .val (.ref a_ITEM), .unset, .unset, .unset, .unset, .unset] [])) _
        refine XS.aloadN X77.here hx rfl (hb hby at_10) rfl rfl ?_
        show Steps p.tables e below (T77.setTop (mkF m 11 #[.val (.int u0), .val (.int u1), .val (.ref a_ITEM), .val (.ref a_ITEM), .unset, .unset, .unset, .unset, .unset] [(.ref a_ITEM)])) _
        refine st78.trans ?_
        show Steps p.tables e below (T78.setTop (mkF m 14 #[.val (.int u0), .val (.int u1), .val (.ref a_ITEM), .val (.ref a_ITEM), .unset, .unset, .unset, .unset, .unset] [(.ref b78)])) _
        refine XS.astore X78.here hx rfl (hb hby at_14) rfl rfl (l' := #[.val (.int u0), .val (.int u1), .val (.ref a_ITEM), .val (.ref a_ITEM), .val (.ref b78), .unset, .unset, .unset, .unset]) rfl ?_
        show Steps p.tables e below (T78.setTop (mkF m 16 #[.val (.int u0), .val (.int u1), .val (.ref a_ITEM), .val (.ref a_ITEM), .val (.ref b78), .unset, .unset, .unset, .unset] [])) _
        refine XS.aload X78.here hx rfl (hb hby at_16) rfl rfl ?_
        show Steps p.tables e below (T78.setTop (mkF m 18 #[.val (.int u0), .val (.int u1), .val (.ref a_ITEM), .val (.ref a_ITEM), .val (.ref b78), .unset, .unset, .unset, .unset] [(.ref b78)])) _
        refine st79.trans ?_
        show Steps p.tables e below (T79.setTop (mkF m 23 #[.val (.int u0), .val (.int u1), .val (.ref a_ITEM), .val (.ref a_ITEM), .val (.ref b78), .unset, .unset, .unset, .unset] [(.int (1 : Int32))])) _
        refine XS.istore X79.here hx rfl (hb hby at_23) rfl (l' := #[.val (.int u0), .val (.int u1), .val (.ref a_ITEM), .val (.ref a_ITEM), .val (.ref b78), .val (.int (1 : Int32)), .unset, .unset, .unset]) rfl ?_
        show Steps p.tables e below (T79.setTop (mkF m 25 #[.val (.int u0), .val (.int u1), .val (.ref a_ITEM), .val (.ref a_ITEM), .val (.ref b78), .val (.int (1 : Int32)), .unset, .unset, .unset] [])) _
        refine XS.aloadN X79.here hx rfl (hb hby at_25) rfl rfl ?_
        show Steps p.tables e below (T79.setTop (mkF m 26 #[.val (.int u0), .val (.int u1), .val (.ref a_ITEM), .val (.ref a_ITEM), .val (.ref b78), .val (.int (1 : Int32)), .unset, .unset, .unset] [(.ref a_ITEM)])) _
        refine st80 _ ?_
        show Steps p.tables e below (T80.setTop (mkF m 29 #[.val (.int u0), .val (.int u1), .val (.ref a_ITEM), .val (.ref a_ITEM), .val (.ref b78), .val (.int (1 : Int32)), .unset, .unset, .unset] [(.ref a_UPSTREAM), (.ref a_ITEM)])) _
        refine Jvm.RoadKit.acmp (g := (mkF m 29 #[.val (.int u0), .val (.int u1), .val (.ref a_ITEM), .val (.ref a_ITEM), .val (.ref b78), .val (.int (1 : Int32)), .unset, .unset, .unset] [(.ref a_UPSTREAM), (.ref a_ITEM)])) X80 hx rfl rfl rfl (pc0 := 29) (pc' := 36) (same := false) rfl (hb hby at_29) rfl (decide_eq_false fun q => (Ne.symm ne_UPSTREAM_ITEM) (Value.ref.inj q)) (by decide) (by decide) ?_
        show Steps p.tables e below (T80.setTop (mkF m 36 #[.val (.int u0), .val (.int u1), .val (.ref a_ITEM), .val (.ref a_ITEM), .val (.ref b78), .val (.int (1 : Int32)), .unset, .unset, .unset] [])) _
        refine XS.iconst X80.here hx rfl (hb hby at_36) ?_
        show Steps p.tables e below (T80.setTop (mkF m 37 #[.val (.int u0), .val (.int u1), .val (.ref a_ITEM), .val (.ref a_ITEM), .val (.ref b78), .val (.int (1 : Int32)), .unset, .unset, .unset] [(.int (1 : Int32))])) _
        refine XS.istore X80.here hx rfl (hb hby at_37) rfl (l' := #[.val (.int u0), .val (.int u1), .val (.ref a_ITEM), .val (.ref a_ITEM), .val (.ref b78), .val (.int (1 : Int32)), .val (.int (1 : Int32)), .unset, .unset]) rfl ?_
        show Steps p.tables e below (T80.setTop (mkF m 39 #[.val (.int u0), .val (.int u1), .val (.ref a_ITEM), .val (.ref a_ITEM), .val (.ref b78), .val (.int (1 : Int32)), .val (.int (1 : Int32)), .unset, .unset] [])) _
        refine XS.iload X80.here hx rfl (hb hby at_39) rfl ?_
        show Steps p.tables e below (T80.setTop (mkF m 41 #[.val (.int u0), .val (.int u1), .val (.ref a_ITEM), .val (.ref a_ITEM), .val (.ref b78), .val (.int (1 : Int32)), .val (.int (1 : Int32)), .unset, .unset] [(.int (1 : Int32))])) _
        refine XS.iload X80.here hx rfl (hb hby at_41) rfl ?_
        show Steps p.tables e below (T80.setTop (mkF m 43 #[.val (.int u0), .val (.int u1), .val (.ref a_ITEM), .val (.ref a_ITEM), .val (.ref b78), .val (.int (1 : Int32)), .val (.int (1 : Int32)), .unset, .unset] [(.int (1 : Int32)), (.int (1 : Int32))])) _
        refine XS.icmpYes X80.here hx rfl (pc0 := 43) (pc' := 48) rfl (hb hby at_43) rfl (teq (by decide)).1 (by decide) (by decide) ?_
        show Steps p.tables e below (T80.setTop (mkF m 48 #[.val (.int u0), .val (.int u1), .val (.ref a_ITEM), .val (.ref a_ITEM), .val (.ref b78), .val (.int (1 : Int32)), .val (.int (1 : Int32)), .unset, .unset] [])) _
        refine XS.aload X80.here hx rfl (hb hby at_48) rfl rfl ?_
        show Steps p.tables e below (T80.setTop (mkF m 50 #[.val (.int u0), .val (.int u1), .val (.ref a_ITEM), .val (.ref a_ITEM), .val (.ref b78), .val (.int (1 : Int32)), .val (.int (1 : Int32)), .unset, .unset] [(.ref b78)])) _
        refine XS.iconst X80.here hx rfl (hb hby at_50) ?_
        show Steps p.tables e below (T80.setTop (mkF m 51 #[.val (.int u0), .val (.int u1), .val (.ref a_ITEM), .val (.ref a_ITEM), .val (.ref b78), .val (.int (1 : Int32)), .val (.int (1 : Int32)), .unset, .unset] [(.int (0 : Int32)), (.ref b78)])) _
        refine st81.trans ?_
        show Steps p.tables e below (T81.setTop (mkF m 56 #[.val (.int u0), .val (.int u1), .val (.ref a_ITEM), .val (.ref a_ITEM), .val (.ref b78), .val (.int (1 : Int32)), .val (.int (1 : Int32)), .unset, .unset] [(.ref a_ITEM)])) _
        refine XS.aloadN X81.here hx rfl (hb hby at_56) rfl rfl ?_
        show Steps p.tables e below (T81.setTop (mkF m 57 #[.val (.int u0), .val (.int u1), .val (.ref a_ITEM), .val (.ref a_ITEM), .val (.ref b78), .val (.int (1 : Int32)), .val (.int (1 : Int32)), .unset, .unset] [(.ref a_ITEM), (.ref a_ITEM)])) _
        refine Jvm.RoadKit.acmp (g := (mkF m 57 #[.val (.int u0), .val (.int u1), .val (.ref a_ITEM), .val (.ref a_ITEM), .val (.ref b78), .val (.int (1 : Int32)), .val (.int (1 : Int32)), .unset, .unset] [(.ref a_ITEM), (.ref a_ITEM)])) X81 hx rfl rfl rfl (pc0 := 57) (pc' := 78) (same := true) rfl (hb hby at_57) rfl (decide_eq_true rfl) (by decide) (by decide) ?_
        show Steps p.tables e below (T81.setTop (mkF m 78 #[.val (.int u0), .val (.int u1), .val (.ref a_ITEM), .val (.ref a_ITEM), .val (.ref b78), .val (.int (1 : Int32)), .val (.int (1 : Int32)), .unset, .unset] [])) _
        refine XS.iconst X81.here hx rfl (hb hby at_78) ?_
        show Steps p.tables e below (T81.setTop (mkF m 79 #[.val (.int u0), .val (.int u1), .val (.ref a_ITEM), .val (.ref a_ITEM), .val (.ref b78), .val (.int (1 : Int32)), .val (.int (1 : Int32)), .unset, .unset] [(.int (1 : Int32))])) _
        refine XS.goto X81.here hx rfl (pc0 := 79) (pc' := 83) rfl (hb hby at_79) (by decide) (by decide) ?_
        show Steps p.tables e below (T81.setTop (mkF m 83 #[.val (.int u0), .val (.int u1), .val (.ref a_ITEM), .val (.ref a_ITEM), .val (.ref b78), .val (.int (1 : Int32)), .val (.int (1 : Int32)), .unset, .unset] [(.int (1 : Int32))])) _
        refine XS.istore X81.here hx rfl (hb hby at_83) rfl (l' := #[.val (.int u0), .val (.int u1), .val (.ref a_ITEM), .val (.ref a_ITEM), .val (.ref b78), .val (.int (1 : Int32)), .val (.int (1 : Int32)), .val (.int (1 : Int32)), .unset]) rfl ?_
        show Steps p.tables e below (T81.setTop (mkF m 85 #[.val (.int u0), .val (.int u1), .val (.ref a_ITEM), .val (.ref a_ITEM), .val (.ref b78), .val (.int (1 : Int32)), .val (.int (1 : Int32)), .val (.int (1 : Int32)), .unset] [])) _
        refine XS.aloadN X81.here hx rfl (hb hby at_85) rfl rfl ?_
        show Steps p.tables e below (T81.setTop (mkF m 86 #[.val (.int u0), .val (.int u1), .val (.ref a_ITEM), .val (.ref a_ITEM), .val (.ref b78), .val (.int (1 : Int32)), .val (.int (1 : Int32)), .val (.int (1 : Int32)), .unset] [(.ref a_ITEM)])) _
        refine st82 _ ?_
        show Steps p.tables e below (T82.setTop (mkF m 89 #[.val (.int u0), .val (.int u1), .val (.ref a_ITEM), .val (.ref a_ITEM), .val (.ref b78), .val (.int (1 : Int32)), .val (.int (1 : Int32)), .val (.int (1 : Int32)), .unset] [(.ref a_UPSTREAM), (.ref a_ITEM)])) _
        refine Jvm.RoadKit.acmp (g := (mkF m 89 #[.val (.int u0), .val (.int u1), .val (.ref a_ITEM), .val (.ref a_ITEM), .val (.ref b78), .val (.int (1 : Int32)), .val (.int (1 : Int32)), .val (.int (1 : Int32)), .unset] [(.ref a_UPSTREAM), (.ref a_ITEM)])) X82 hx rfl rfl rfl (pc0 := 89) (pc' := 92) (same := false) rfl (hb hby at_89) rfl (decide_eq_false fun q => (Ne.symm ne_UPSTREAM_ITEM) (Value.ref.inj q)) (by decide) (by decide) ?_
        show Steps p.tables e below (T82.setTop (mkF m 92 #[.val (.int u0), .val (.int u1), .val (.ref a_ITEM), .val (.ref a_ITEM), .val (.ref b78), .val (.int (1 : Int32)), .val (.int (1 : Int32)), .val (.int (1 : Int32)), .unset] [])) _
        refine XS.aloadN X82.here hx rfl (hb hby at_92) rfl rfl ?_
        show Steps p.tables e below (T82.setTop (mkF m 93 #[.val (.int u0), .val (.int u1), .val (.ref a_ITEM), .val (.ref a_ITEM), .val (.ref b78), .val (.int (1 : Int32)), .val (.int (1 : Int32)), .val (.int (1 : Int32)), .unset] [(.ref a_ITEM)])) _
        refine st83 _ ?_
        show Steps p.tables e below (T83.setTop (mkF m 96 #[.val (.int u0), .val (.int u1), .val (.ref a_ITEM), .val (.ref a_ITEM), .val (.ref b78), .val (.int (1 : Int32)), .val (.int (1 : Int32)), .val (.int (1 : Int32)), .unset] [(.ref a_UPSTREAM), (.ref a_ITEM)])) _
        refine Jvm.RoadKit.acmp (g := (mkF m 96 #[.val (.int u0), .val (.int u1), .val (.ref a_ITEM), .val (.ref a_ITEM), .val (.ref b78), .val (.int (1 : Int32)), .val (.int (1 : Int32)), .val (.int (1 : Int32)), .unset] [(.ref a_UPSTREAM), (.ref a_ITEM)])) X83 hx rfl rfl rfl (pc0 := 96) (pc' := 99) (same := false) rfl (hb hby at_96) rfl (decide_eq_false fun q => (Ne.symm ne_UPSTREAM_ITEM) (Value.ref.inj q)) (by decide) (by decide) ?_
        show Steps p.tables e below (T83.setTop (mkF m 99 #[.val (.int u0), .val (.int u1), .val (.ref a_ITEM), .val (.ref a_ITEM), .val (.ref b78), .val (.int (1 : Int32)), .val (.int (1 : Int32)), .val (.int (1 : Int32)), .unset] [])) _
        refine XS.aloadN X83.here hx rfl (hb hby at_99) rfl rfl ?_
        show Steps p.tables e below (T83.setTop (mkF m 100 #[.val (.int u0), .val (.int u1), .val (.ref a_ITEM), .val (.ref a_ITEM), .val (.ref b78), .val (.int (1 : Int32)), .val (.int (1 : Int32)), .val (.int (1 : Int32)), .unset] [(.ref a_ITEM)])) _
        refine XS.aloadN X83.here hx rfl (hb hby at_100) rfl rfl ?_
        show Steps p.tables e below (T83.setTop (mkF m 101 #[.val (.int u0), .val (.int u1), .val (.ref a_ITEM), .val (.ref a_ITEM), .val (.ref b78), .val (.int (1 : Int32)), .val (.int (1 : Int32)), .val (.int (1 : Int32)), .unset] [(.ref a_ITEM), (.ref a_ITEM)])) _
        refine Jvm.RoadKit.acmp (g := (mkF m 101 #[.val (.int u0), .val (.int u1), .val (.ref a_ITEM), .val (.ref a_ITEM), .val (.ref b78), .val (.int (1 : Int32)), .val (.int (1 : Int32)), .val (.int (1 : Int32)), .unset] [(.ref a_ITEM), (.ref a_ITEM)])) X83 hx rfl rfl rfl (pc0 := 101) (pc' := 104) (same := true) rfl (hb hby at_101) rfl (decide_eq_true rfl) (by decide) (by decide) ?_
        show Steps p.tables e below (T83.setTop (mkF m 104 #[.val (.int u0), .val (.int u1), .val (.ref a_ITEM), .val (.ref a_ITEM), .val (.ref b78), .val (.int (1 : Int32)), .val (.int (1 : Int32)), .val (.int (1 : Int32)), .unset] [])) _
        refine XS.iconst X83.here hx rfl (hb hby at_104) ?_
        show Steps p.tables e below (T83.setTop (mkF m 105 #[.val (.int u0), .val (.int u1), .val (.ref a_ITEM), .val (.ref a_ITEM), .val (.ref b78), .val (.int (1 : Int32)), .val (.int (1 : Int32)), .val (.int (1 : Int32)), .unset] [(.int (1 : Int32))])) _
        refine XS.goto X83.here hx rfl (pc0 := 105) (pc' := 109) rfl (hb hby at_105) (by decide) (by decide) ?_
        show Steps p.tables e below (T83.setTop (mkF m 109 #[.val (.int u0), .val (.int u1), .val (.ref a_ITEM), .val (.ref a_ITEM), .val (.ref b78), .val (.int (1 : Int32)), .val (.int (1 : Int32)), .val (.int (1 : Int32)), .unset] [(.int (1 : Int32))])) _
        refine XS.istore X83.here hx rfl (hb hby at_109) rfl (l' := #[.val (.int u0), .val (.int u1), .val (.ref a_ITEM), .val (.ref a_ITEM), .val (.ref b78), .val (.int (1 : Int32)), .val (.int (1 : Int32)), .val (.int (1 : Int32)), .val (.int (1 : Int32))]) rfl ?_
        show Steps p.tables e below (T83.setTop (mkF m 111 #[.val (.int u0), .val (.int u1), .val (.ref a_ITEM), .val (.ref a_ITEM), .val (.ref b78), .val (.int (1 : Int32)), .val (.int (1 : Int32)), .val (.int (1 : Int32)), .val (.int (1 : Int32))] [])) _
        refine XS.iload X83.here hx rfl (hb hby at_111) rfl ?_
        show Steps p.tables e below (T83.setTop (mkF m 113 #[.val (.int u0), .val (.int u1), .val (.ref a_ITEM), .val (.ref a_ITEM), .val (.ref b78), .val (.int (1 : Int32)), .val (.int (1 : Int32)), .val (.int (1 : Int32)), .val (.int (1 : Int32))] [(.int (1 : Int32))])) _
        refine XS.iload X83.here hx rfl (hb hby at_113) rfl ?_
        show Steps p.tables e below (T83.setTop (mkF m 115 #[.val (.int u0), .val (.int u1), .val (.ref a_ITEM), .val (.ref a_ITEM), .val (.ref b78), .val (.int (1 : Int32)), .val (.int (1 : Int32)), .val (.int (1 : Int32)), .val (.int (1 : Int32))] [(.int (1 : Int32)), (.int (1 : Int32))])) _
        refine XS.icmpYes X83.here hx rfl (pc0 := 115) (pc' := 120) rfl (hb hby at_115) rfl (teq (by decide)).1 (by decide) (by decide) ?_
        show Steps p.tables e below (T83.setTop (mkF m 120 #[.val (.int u0), .val (.int u1), .val (.ref a_ITEM), .val (.ref a_ITEM), .val (.ref b78), .val (.int (1 : Int32)), .val (.int (1 : Int32)), .val (.int (1 : Int32)), .val (.int (1 : Int32))] [])) _
        refine XS.iload X83.here hx rfl (hb hby at_120) rfl ?_
        show Steps p.tables e below (T83.setTop (mkF m 122 #[.val (.int u0), .val (.int u1), .val (.ref a_ITEM), .val (.ref a_ITEM), .val (.ref b78), .val (.int (1 : Int32)), .val (.int (1 : Int32)), .val (.int (1 : Int32)), .val (.int (1 : Int32))] [(.int (1 : Int32))])) _
        refine XS.iconst X83.here hx rfl (hb hby at_122) ?_
        show Steps p.tables e below (T83.setTop (mkF m 123 #[.val (.int u0), .val (.int u1), .val (.ref a_ITEM), .val (.ref a_ITEM), .val (.ref b78), .val (.int (1 : Int32)), .val (.int (1 : Int32)), .val (.int (1 : Int32)), .val (.int (1 : Int32))] [(.int (2 : Int32)), (.int (1 : Int32))])) _
        refine XS.icmpYes X83.here hx rfl (pc0 := 123) (pc' := 156) rfl (hb hby at_123) rfl (feq (by decide)).2 (by decide) (by decide) ?_
        show Steps p.tables e below (T83.setTop (mkF m 156 #[.val (.int u0), .val (.int u1), .val (.ref a_ITEM), .val (.ref a_ITEM), .val (.ref b78), .val (.int (1 : Int32)), .val (.int (1 : Int32)), .val (.int (1 : Int32)), .val (.int (1 : Int32))] [])) _
        refine XS.iconst X83.here hx rfl (hb hby at_156) ?_
        show Steps p.tables e below (T83.setTop (mkF m 157 #[.val (.int u0), .val (.int u1), .val (.ref a_ITEM), .val (.ref a_ITEM), .val (.ref b78), .val (.int (1 : Int32)), .val (.int (1 : Int32)), .val (.int (1 : Int32)), .val (.int (1 : Int32))] [(.int (1 : Int32))])) _
        exact retN X83 hx (t := .boolean) Bd.returns (by simp) (hb hby at_157) hr
      · show Q0 Z u0 u1 a_UPSTREAM a_LIST a_ITEM a_ENDPOINTS a_EMPTY h0 n0 _ T83.heap _
        rw [e83]
        exact ⟨rfl, N81⟩
set_option maxRecDepth 65536 in
set_option maxHeartbeats 40000000 in
theorem comes_1 {Post : Tables → Env → Array Value → State → Outcome → State → Prop} (hpost : ∀ tb e args s v u, (limb_1_1.after args s (.returned v) u = true ∧ limb_1_2.after args s (.returned v) u = true ∧ True) → FrameEnd s (.returned v) u (Jvm.fieldLocs frame_1_writes args s ++ Jvm.arrayLocs frame_1_arrays args s ++ Jvm.staticLocs frame_1_statics s) 16 128 → Post tb e args s (.returned v) u) :
    ArmFor flags0 classFile x code maxLocals ret World_1 tables_1 room_1 Calls_1 rest_1 Pre_1 Post := by
  intro l hfl _ _ p e ha hc hk s m args below hf hA hF happ hP
  obtain ⟨hcalls, hrest, hpre⟩ := hP
  obtain ⟨-, -, -, hnamed, -, -, -, hat⟩ := (Spec.applies_iff hf).mp happ
  obtain ⟨hg, hn⟩ := and_e (Cond.before_iff.mp (show (Jvm.Cond.and given_1 narrow_1).before args s = true from hpre))
  obtain ⟨g1, g2⟩ := and_e hg
  obtain ⟨g3, g4⟩ := and_e g2
  obtain ⟨g5, g6⟩ := and_e hn
  obtain ⟨g7, g8⟩ := and_e g6
  obtain ⟨g9, g10⟩ := and_e g8
  obtain ⟨g11, g12⟩ := and_e g10
  obtain ⟨g13, g14⟩ := and_e g12
  obtain ⟨g15, g16⟩ := and_e g14
  obtain ⟨g17, g18⟩ := and_e g16
  obtain ⟨g19, g20⟩ := and_e g18
  obtain ⟨w0, w1, rfl⟩ : ∃ w0 w1 : Value, args = #[w0, w1] := by
    have hs : args.size = 2 := by simpa [Cond.value, given_1] using g1
    obtain ⟨L⟩ := args
    match L, hs with
    | [w0, w1], _ => exact ⟨w0, w1, rfl⟩
  have hw := fun d (hd : d ∈ tables_1) => atoms_spec (ws := Jvm.Cond.code x code maxLocals ret :: tables_1) hat d (List.mem_cons_of_mem _ hd)
  have hfit : Fit s := fun {y c} hc i hi => by
    obtain ⟨ha, rfl⟩ := Array.getElem?_eq_some_iff.mp hc
    have q := List.all_eq_true.mp ((Array.all_eq_true_iff_forall_mem.mp hF) _ (Array.getElem_mem ha)) i (List.mem_range.mpr hi)
    simpa [Array.getElem?_eq_getElem hi] using q
  obtain ⟨hsets, hown0⟩ := atoms_of _ (rest_1_c_eq ▸ (show rest_1_c.before _ s = true from hrest))
  have hr0 := Cond.before_iff.mp hown0
  obtain ⟨i0, ei0⟩ := is_v g3
  obtain rfl : w0 = (.int i0) := Option.some.inj ei0
  obtain ⟨i1, ei1⟩ := is_v g4
  obtain rfl : w1 = (.int i1) := Option.some.inj ei1
  obtain ⟨a_UPSTREAM, ev_UPSTREAM⟩ := exa_v g5
  have E_UPSTREAM : Exa s s.heap a_UPSTREAM "com/example/backfill/backfill/engine/Lane" := Exa.start ev_UPSTREAM g5
  have S_UPSTREAM : Sta s s.heap "com/example/backfill/backfill/engine/Lane" "UPSTREAM" "Lcom/example/backfill/backfill/engine/Lane;" (.ref a_UPSTREAM) := Sta.start ev_UPSTREAM (Or.inr ⟨(hw _ (List.mem_of_getElem? (i := 6) rfl)), (hw _ (List.mem_of_getElem? (i := 7) rfl))⟩)
  obtain ⟨a_ENDPOINTS, ev_ENDPOINTS⟩ := exa_v g7
  have E_ENDPOINTS : Exa s s.heap a_ENDPOINTS "java/util/ImmutableCollections$List12" := Exa.start ev_ENDPOINTS g7
  have S_ENDPOINTS : Sta s s.heap "com/example/backfill/backfill/engine/Lane" "ENDPOINTS" "Ljava/util/List;" (.ref a_ENDPOINTS) := Sta.start ev_ENDPOINTS (Or.inr ⟨(hw _ (List.mem_of_getElem? (i := 6) rfl)), (hw _ (List.mem_of_getElem? (i := 15) rfl))⟩)
  obtain ⟨a_ITEM, ev_ITEM⟩ := exa_v g9
  have E_ITEM : Exa s s.heap a_ITEM "com/example/backfill/backfill/engine/Lane" := Exa.start ev_ITEM g9
  have S_ITEM : Sta s s.heap "com/example/backfill/backfill/engine/Lane" "ITEM" "Lcom/example/backfill/backfill/engine/Lane;" (.ref a_ITEM) := Sta.start ev_ITEM (Or.inr ⟨(hw _ (List.mem_of_getElem? (i := 6) rfl)), (hw _ (List.mem_of_getElem? (i := 28) rfl))⟩)
  obtain ⟨a_LIST, ev_LIST⟩ := exa_v g13
  have E_LIST : Exa s s.heap a_LIST "com/example/backfill/backfill/engine/Lane" := Exa.start ev_LIST g13
  have S_LIST : Sta s s.heap "com/example/backfill/backfill/engine/Lane" "LIST" "Lcom/example/backfill/backfill/engine/Lane;" (.ref a_LIST) := Sta.start ev_LIST (Or.inr ⟨(hw _ (List.mem_of_getElem? (i := 6) rfl)), (hw _ (List.mem_of_getElem? (i := 41) rfl))⟩)
  have O_LIST : Fld s s.heap a_LIST "java/lang/Enum" "ordinal" "I" (.int (1 : Int32)) := own_fld_int g17 ev_LIST
  have O_UPSTREAM : Fld s s.heap a_UPSTREAM "java/lang/Enum" "ordinal" "I" (.int (0 : Int32)) := own_fld_int g19 ev_UPSTREAM
  have O_ITEM : Fld s s.heap a_ITEM "java/lang/Enum" "ordinal" "I" (.int (2 : Int32)) := own_fld_int g20 ev_ITEM
  have R_ENDPOINTS_e1 : Fld s s.heap a_ENDPOINTS "java/util/ImmutableCollections$List12" "e1" "Ljava/lang/Object;" (.ref a_ITEM) := own_fld_ref g11 ev_ENDPOINTS ev_ITEM
  have R_ENDPOINTS_e0 : Fld s s.heap a_ENDPOINTS "java/util/ImmutableCollections$List12" "e0" "Ljava/lang/Object;" (.ref a_LIST) := own_fld_ref g15 ev_ENDPOINTS ev_LIST
  have xE := Cond.before_iff.mp (hsets _ (List.mem_of_getElem? (i := 2) rfl))
  obtain ⟨a_EMPTY, ev_EMPTY⟩ := exa_v xE
  have E_EMPTY : Exa s s.heap a_EMPTY "java/lang/Object" := Exa.start ev_EMPTY xE
  have S_EMPTY : Sta s s.heap "java/util/ImmutableCollections" "EMPTY" "Ljava/lang/Object;" (.ref a_EMPTY) := Sta.start ev_EMPTY (Or.inl (hsets _ (List.mem_of_getElem? (i := 1) rfl)))
  obtain ⟨n, o, h1, h2, h3, _, L, rfl, ⟨rfl, N⟩, hq⟩ := rm0 l s _ hw tables_1 i0 i1 a_UPSTREAM a_LIST a_ITEM a_ENDPOINTS a_EMPTY s.heap s.heap.size (Nat.le_refl _) (Old.start s) S_UPSTREAM S_LIST S_ITEM S_ENDPOINTS S_EMPTY E_UPSTREAM E_LIST E_ITEM E_ENDPOINTS R_ENDPOINTS_e0 R_ENDPOINTS_e1 (Fld.ne O_UPSTREAM O_LIST (by simp)) (Fld.ne O_UPSTREAM O_ITEM (by simp)) (Fld.ne O_LIST O_ITEM (by simp)) (ne_exa E_ITEM E_EMPTY (by decide)) p e ha hc hk s m _ below hf ((Spec.applies_iff_loose hf).mp happ).1 ⟨rfl, State.Warmed39.refl s, rfl⟩ trivial
  refine ⟨n, _, h1, h2, h3, hpost _ _ _ _ _ _ ⟨Cond.after_iff.mpr rfl, Cond.after_iff.mpr (eq_i res_at (Term.int_eval (1)) rfl), trivial⟩ ⟨hq.1, hq.2.1, (hq.2.2.sift fun y hy => Or.inr (N y hy)).mono (by decide) (by decide)⟩⟩
theorem main_1_1 : Claimed_1_1 := comes_1 fun _ _ _ _ _ _ h hF => ⟨h.1, hF⟩
theorem main_1_2 : Claimed_1_2 := comes_1 fun _ _ _ _ _ _ h hF => ⟨h.2.1, hF⟩
end Jvm.Pilot.@@N@@
namespace Jvm.Pilot.@@N@@
open Jvm Jvm.ClassFile Sem Op Lib Jvm.Free Jvm.Stand Jvm.Pilot.@@N@@.Jvm.D
/-! MADE BY PROGRAM (witnessworld.py) out of the Statement's table words and the real class files: 24 classes; the members and pool entries that the words name. The judged class is class 1, her method 2. -/
namespace start1
open Jvm.ClassFile
def u (s : String) : CpInfo := .utf8 (stringToUtf16 s)
/-- a pool by its gaps: so many unusable entries, then the entry; so many at the end -/
def gap : Nat → List CpInfo → List CpInfo
  | 0, r => r
  | n + 1, r => .unusable :: gap n r
def poolList (es : List (Nat × CpInfo)) (last : Nat) : List CpInfo := es.foldr (fun e r => gap e.1 (e.2 :: r)) (gap last [])
def pool (es : List (Nat × CpInfo)) (last : Nat) : Array CpInfo := ⟨poolList es last⟩
def fileOf (pool : Array CpInfo) (this : Nat) (attrs : Array Attribute := #[]) (ms : Array MethodInfo := #[]) (fl : Nat := 33) (sup : Nat := 0) (ifs : Array Nat := #[]) (fds : Array FieldInfo := #[]) : ClassFile where
  minorVersion := 0
  majorVersion := 65
  constantPool := pool
  accessFlags := fl
  thisClass := this
  superClass := sup
  interfaces := ifs
  fields := fds
  methods := ms
  attributes := attrs
def plain (name : String) (sup : Option ClassId) : Class where
  name := name
  kind := .ordinary
  loader := none
  accessFlags := 33
  super := sup
  interfaces := #[]
  cf := none
  fields := #[]
  methods := #[]
  instanceTypes := #[]
  staticTypes := #[]
  resolved := #[]
  callSites := []
  init := .initialized
  statics := none
  mirror := none

def pool0 : Array CpInfo := pool [(5, u "<init>"), (0, u "()V"), (1, .class_ 10), (1, u "java/lang/Object")] 113

def k0c0 : Code := { maxStack := 0, maxLocals := 1, code := object_method_1_code, exceptionTable := #[], attributes := #[] }
def k0m0 : Method := { name := "<init>", desc := "()V", sig := { parameters := [], returnType := none }, accessFlags := 1, code := some k0c0 }
/-- java/lang/Object -/
def k0 : Class := { plain "java/lang/Object" none with
  accessFlags := 33
  interfaces := #[]
  cf := some (fileOf pool0 8 #[] #[{ accessFlags := 1, nameIndex := 5, descriptorIndex := 6, attributes := #[] }] 33 0 #[] #[])
  fields := #[]
  methods := #[k0m0]
  instanceTypes := #[]
  staticTypes := #[]
  resolved := Array.replicate 124 none
  statics := none }

def pool1 : Array CpInfo := pool [(2, .class_ 4), (1, u "java/lang/Object"), (0, u "<init>"), (0, u "()V"), (0, .integer 2147483647), (0, .fieldref 9 10), (0, .class_ 11), (0, .nameAndType 12 13), (0, u "com/example/backfill/backfill/engine/Lane"), (0, u "UPSTREAM"), (0, u "Lcom/example/backfill/backfill/engine/Lane;"), (0, .fieldref 9 15), (0, .nameAndType 16 13), (0, u "LIST"), (0, .fieldref 9 18), (0, .nameAndType 19 13), (0, u "ITEM"), (0, .methodref 21 22), (0, .class_ 23), (0, .nameAndType 24 25), (0, u "com/example/backfill/backfill/engine/LaneEndpointsPinLaw"), (0, u "pick"), (0, u "(I)Lcom/example/backfill/backfill/engine/Lane;"), (0, .methodref 9 27), (0, .nameAndType 28 29), (0, u "endpoints"), (0, u "()Ljava/util/List;"), (0, .interfaceMethodref 31 32), (0, .class_ 33), (0, .nameAndType 34 35), (0, u "java/util/List"), (0, u "size"), (0, u "()I"), (0, .interfaceMethodref 31 37), (0, .nameAndType 38 39), (0, u "get"), (0, u "(I)Ljava/lang/Object;"), (3, u "law"), (0, u "(II)Z")] 2

def k1m0 : Method := { name := "<init>", desc := "()V", sig := { parameters := [], returnType := none }, accessFlags := 1, code := none }
def k1c1 : Code := { maxStack := 2, maxLocals := 2, code := method_2_code, exceptionTable := #[], attributes := #[] }
def k1m1 : Method := { name := "pick", desc := "(I)Lcom/example/backfill/backfill/engine/Lane;", sig := { parameters := [.int], returnType := some (.object "com/example/backfill/backfill/engine/Lane") }, accessFlags := 10, code := some k1c1 }
def k1c2 : Code := { maxStack := 2, maxLocals := 9, code := code, exceptionTable := #[], attributes := #[] }
def k1m2 : Method := { name := "law", desc := "(II)Z", sig := { parameters := [.int, .int], returnType := some .boolean }, accessFlags := 9, code := some k1c2 }
/-- com/example/backfill/backfill/engine/LaneEndpointsPinLaw -/
def k1 : Class := { plain "com/example/backfill/backfill/engine/LaneEndpointsPinLaw" (some 0) with
  accessFlags := 49
  interfaces := #[]
  cf := some (fileOf pool1 21 #[] #[{ accessFlags := 1, nameIndex := 5, descriptorIndex := 6, attributes := #[] }, { accessFlags := 10, nameIndex := 24, descriptorIndex := 25, attributes := #[] }, { accessFlags := 9, nameIndex := 43, descriptorIndex := 44, attributes := #[] }] 49 2 #[] #[])
  fields := #[]
  methods := #[k1m0, k1m1, k1m2]
  instanceTypes := #[]
  staticTypes := #[]
  resolved := Array.replicate 47 none
  statics := none }

def pool2 : Array CpInfo := pool [(1, .class_ 2), (0, u "java/lang/constant/Constable"), (0, .class_ 4), (0, u "java/lang/Object")] 6

/-- java/lang/constant/Constable -/
def k2 : Class := { plain "java/lang/constant/Constable" (some 0) with
  accessFlags := 1537
  interfaces := #[]
  cf := some (fileOf pool2 1 #[] #[] 1537 3 #[] #[])
  fields := #[]
  methods := #[]
  instanceTypes := #[]
  staticTypes := #[]
  resolved := Array.replicate 11 none
  statics := none }

def pool3 : Array CpInfo := pool [(1, .class_ 2), (0, u "java/lang/Comparable"), (0, .class_ 4), (0, u "java/lang/Object")] 7

/-- java/lang/Comparable -/
def k3 : Class := { plain "java/lang/Comparable" (some 0) with
  accessFlags := 1537
  interfaces := #[]
  cf := some (fileOf pool3 1 #[] #[] 1537 3 #[] #[])
  fields := #[]
  methods := #[]
  instanceTypes := #[]
  staticTypes := #[]
  resolved := Array.replicate 12 none
  statics := none }

def pool4 : Array CpInfo := pool [(1, .class_ 2), (0, u "java/io/Serializable"), (0, .class_ 4), (0, u "java/lang/Object")] 2

/-- java/io/Serializable -/
def k4 : Class := { plain "java/io/Serializable" (some 0) with
  accessFlags := 1537
  interfaces := #[]
  cf := some (fileOf pool4 1 #[] #[] 1537 3 #[] #[])
  fields := #[]
  methods := #[]
  instanceTypes := #[]
  staticTypes := #[]
  resolved := Array.replicate 7 none
  statics := none }

def pool5 : Array CpInfo := pool [(2, .class_ 4), (1, u "java/lang/Enum"), (0, u "name"), (0, u "Ljava/lang/String;"), (2, u "ordinal"), (0, u "I"), (1, .class_ 14), (1, u "java/lang/Object"), (4, u "hash"), (86, .class_ 108), (1, u "java/lang/Enum$EnumDesc"), (2, .class_ 112), (0, u "java/lang/constant/Constable"), (0, .class_ 114), (0, u "java/lang/Comparable"), (0, .class_ 116), (0, u "java/io/Serializable")] 87

/-- java/lang/Enum -/
def k5 : Class := { plain "java/lang/Enum" (some 0) with
  accessFlags := 1057
  interfaces := #[2, 3, 4]
  cf := some (fileOf pool5 2 #[.nestMembers #[106]] #[] 1057 12 #[111, 113, 115] #[{ accessFlags := 18, nameIndex := 5, descriptorIndex := 6, attributes := #[] }, { accessFlags := 18, nameIndex := 9, descriptorIndex := 10, attributes := #[] }, { accessFlags := 2, nameIndex := 19, descriptorIndex := 10, attributes := #[] }])
  fields := #[{ name := "name", type := (.object "java/lang/String"), accessFlags := 18, slot := 0, constantValue := 0 }, { name := "ordinal", type := .int, accessFlags := 18, slot := 1, constantValue := 0 }, { name := "hash", type := .int, accessFlags := 2, slot := 2, constantValue := 0 }]
  methods := #[]
  instanceTypes := #[(.object "java/lang/String"), .int, .int]
  staticTypes := #[]
  resolved := Array.replicate 204 none
  statics := none }

def pool6 : Array CpInfo := pool [(1, .class_ 2), (0, u "com/example/backfill/backfill/engine/Lane"), (0, .fieldref 1 4), (0, .nameAndType 5 6), (0, u "UPSTREAM"), (0, u "Lcom/example/backfill/backfill/engine/Lane;"), (2, u "LIST"), (2, u "ITEM"), (2, u "$VALUES"), (0, u "[Lcom/example/backfill/backfill/engine/Lane;"), (6, .class_ 25), (1, u "java/lang/Enum"), (43, .interfaceMethodref 70 71), (0, .class_ 72), (0, .nameAndType 73 74), (0, u "java/util/List"), (0, u "of"), (0, u "(Ljava/lang/Object;)Ljava/util/List;"), (3, .fieldref 1 79), (0, .nameAndType 80 81), (0, u "ENDPOINTS"), (0, u "Ljava/util/List;"), (26, u "()Ljava/util/List;"), (1, u "endpoints")] 6

def k6c0 : Code := { maxStack := 2, maxLocals := 1, code := prog_19_method_8_code, exceptionTable := #[], attributes := #[] }
def k6m0 : Method := { name := "endpoints", desc := "()Ljava/util/List;", sig := { parameters := [], returnType := some (.object "java/util/List") }, accessFlags := 0, code := some k6c0 }
/-- com/example/backfill/backfill/engine/Lane -/
def k6 : Class := { plain "com/example/backfill/backfill/engine/Lane" (some 5) with
  accessFlags := 16433
  interfaces := #[]
  cf := some (fileOf pool6 1 #[] #[{ accessFlags := 0, nameIndex := 110, descriptorIndex := 108, attributes := #[] }] 16433 23 #[] #[{ accessFlags := 16409, nameIndex := 5, descriptorIndex := 6, attributes := #[] }, { accessFlags := 16409, nameIndex := 9, descriptorIndex := 6, attributes := #[] }, { accessFlags := 16409, nameIndex := 12, descriptorIndex := 6, attributes := #[] }, { accessFlags := 24, nameIndex := 80, descriptorIndex := 81, attributes := #[] }, { accessFlags := 4122, nameIndex := 15, descriptorIndex := 16, attributes := #[] }])
  fields := #[{ name := "UPSTREAM", type := (.object "com/example/backfill/backfill/engine/Lane"), accessFlags := 16409, slot := 0, constantValue := 0 }, { name := "LIST", type := (.object "com/example/backfill/backfill/engine/Lane"), accessFlags := 16409, slot := 1, constantValue := 0 }, { name := "ITEM", type := (.object "com/example/backfill/backfill/engine/Lane"), accessFlags := 16409, slot := 2, constantValue := 0 }, { name := "ENDPOINTS", type := (.object "java/util/List"), accessFlags := 24, slot := 3, constantValue := 0 }, { name := "$VALUES", type := (.array (.object "com/example/backfill/backfill/engine/Lane")), accessFlags := 4122, slot := 4, constantValue := 0 }]
  methods := #[k6m0]
  instanceTypes := #[(.object "java/lang/String"), .int, .int]
  staticTypes := #[(.object "com/example/backfill/backfill/engine/Lane"), (.object "com/example/backfill/backfill/engine/Lane"), (.object "com/example/backfill/backfill/engine/Lane"), (.object "java/util/List"), (.array (.object "com/example/backfill/backfill/engine/Lane"))]
  resolved := Array.replicate 117 none
  statics := some 0 }

def pool7 : Array CpInfo := pool [(8, .class_ 10), (1, u "java/lang/Iterable"), (24, .class_ 36), (0, u "java/lang/Object")] 25

/-- java/lang/Iterable -/
def k7 : Class := { plain "java/lang/Iterable" (some 0) with
  accessFlags := 1537
  interfaces := #[]
  cf := some (fileOf pool7 8 #[] #[] 1537 35 #[] #[])
  fields := #[]
  methods := #[]
  instanceTypes := #[]
  staticTypes := #[]
  resolved := Array.replicate 62 none
  statics := none }

def pool8 : Array CpInfo := pool [(10, .class_ 12), (1, u "java/util/Collection"), (47, .class_ 61), (0, u "java/lang/Object"), (0, .class_ 63), (0, u "java/lang/Iterable")] 51

/-- java/util/Collection -/
def k8 : Class := { plain "java/util/Collection" (some 0) with
  accessFlags := 1537
  interfaces := #[7]
  cf := some (fileOf pool8 10 #[] #[] 1537 60 #[62] #[])
  fields := #[]
  methods := #[]
  instanceTypes := #[]
  staticTypes := #[]
  resolved := Array.replicate 115 none
  statics := none }

def pool9 : Array CpInfo := pool [(8, .class_ 10), (1, u "java/util/SequencedCollection"), (15, .class_ 27), (0, u "java/lang/Object"), (0, .class_ 29), (0, u "java/util/Collection")] 27

/-- java/util/SequencedCollection -/
def k9 : Class := { plain "java/util/SequencedCollection" (some 0) with
  accessFlags := 1537
  interfaces := #[8]
  cf := some (fileOf pool9 8 #[] #[] 1537 26 #[28] #[])
  fields := #[]
  methods := #[]
  instanceTypes := #[]
  staticTypes := #[]
  resolved := Array.replicate 57 none
  statics := none }

def pool10 : Array CpInfo := pool [(8, .class_ 10), (1, u "java/util/List"), (20, u "(Ljava/lang/Object;)V"), (16, u "<init>"), (26, u "get"), (0, u "(I)Ljava/lang/Object;"), (2, u "size"), (0, u "()I"), (7, u "of"), (7, .class_ 97), (0, u "java/util/ImmutableCollections$List12"), (0, .methodref 96 99), (0, .nameAndType 48 31), (3, .class_ 104), (0, u "java/lang/Object"), (15, .class_ 121), (0, u "java/util/SequencedCollection"), (76, u "(Ljava/lang/Object;)Ljava/util/List;")] 52

def k10m0 : Method := { name := "size", desc := "()I", sig := { parameters := [], returnType := some .int }, accessFlags := 1025, code := none }
def k10m1 : Method := { name := "get", desc := "(I)Ljava/lang/Object;", sig := { parameters := [.int], returnType := some (.object "java/lang/Object") }, accessFlags := 1025, code := none }
def k10c2 : Code := { maxStack := 3, maxLocals := 1, code := jdk_40_method_37_code, exceptionTable := #[], attributes := #[] }
def k10m2 : Method := { name := "of", desc := "(Ljava/lang/Object;)Ljava/util/List;", sig := { parameters := [(.object "java/lang/Object")], returnType := some (.object "java/util/List") }, accessFlags := 9, code := some k10c2 }
/-- java/util/List -/
def k10 : Class := { plain "java/util/List" (some 0) with
  accessFlags := 1537
  interfaces := #[9]
  cf := some (fileOf pool10 8 #[] #[{ accessFlags := 1025, nameIndex := 79, descriptorIndex := 80, attributes := #[] }, { accessFlags := 1025, nameIndex := 75, descriptorIndex := 76, attributes := #[] }, { accessFlags := 9, nameIndex := 88, descriptorIndex := 198, attributes := #[] }] 1537 103 #[120] #[])
  fields := #[]
  methods := #[k10m0, k10m1, k10m2]
  instanceTypes := #[]
  staticTypes := #[]
  resolved := Array.replicate 251 none
  statics := none }

def pool11 : Array CpInfo := pool [(1, .methodref 2 3), (0, .class_ 4), (0, .nameAndType 5 6), (0, u "java/lang/Object"), (0, u "<init>"), (0, u "()V"), (1, .class_ 10), (1, u "java/util/AbstractCollection"), (66, .class_ 78), (0, u "java/util/Collection")] 81

def k11c0 : Code := { maxStack := 1, maxLocals := 1, code := jdk_22_method_1_code, exceptionTable := #[], attributes := #[] }
def k11m0 : Method := { name := "<init>", desc := "()V", sig := { parameters := [], returnType := none }, accessFlags := 4, code := some k11c0 }
/-- java/util/AbstractCollection -/
def k11 : Class := { plain "java/util/AbstractCollection" (some 0) with
  accessFlags := 1057
  interfaces := #[8]
  cf := some (fileOf pool11 8 #[] #[{ accessFlags := 4, nameIndex := 5, descriptorIndex := 6, attributes := #[] }] 1057 2 #[77] #[])
  fields := #[]
  methods := #[k11m0]
  instanceTypes := #[]
  staticTypes := #[]
  resolved := Array.replicate 160 none
  statics := none }

def pool12 : Array CpInfo := pool [(1, .methodref 2 3), (0, .class_ 4), (0, .nameAndType 5 6), (0, u "java/util/AbstractCollection"), (0, u "<init>"), (0, u "()V"), (1, .class_ 10), (1, u "java/util/ImmutableCollections"), (2, .class_ 14), (0, u "java/util/ImmutableCollections$AbstractImmutableCollection")] 41

def k12c0 : Code := { maxStack := 1, maxLocals := 1, code := jdk_47_method_1_code, exceptionTable := #[], attributes := #[] }
def k12m0 : Method := { name := "<init>", desc := "()V", sig := { parameters := [], returnType := none }, accessFlags := 0, code := some k12c0 }
/-- java/util/ImmutableCollections$AbstractImmutableCollection -/
def k12 : Class := { plain "java/util/ImmutableCollections$AbstractImmutableCollection" (some 11) with
  accessFlags := 1056
  interfaces := #[]
  cf := some (fileOf pool12 13 #[.nestHost 8] #[{ accessFlags := 0, nameIndex := 5, descriptorIndex := 6, attributes := #[] }] 1056 2 #[] #[])
  fields := #[]
  methods := #[k12m0]
  instanceTypes := #[]
  staticTypes := #[]
  resolved := Array.replicate 56 none
  statics := none }

def pool13 : Array CpInfo := pool [(1, .class_ 2), (0, u "java/util/RandomAccess"), (0, .class_ 4), (0, u "java/lang/Object")] 2

/-- java/util/RandomAccess -/
def k13 : Class := { plain "java/util/RandomAccess" (some 0) with
  accessFlags := 1537
  interfaces := #[]
  cf := some (fileOf pool13 1 #[] #[] 1537 3 #[] #[])
  fields := #[]
  methods := #[]
  instanceTypes := #[]
  staticTypes := #[]
  resolved := Array.replicate 7 none
  statics := none }

def pool14 : Array CpInfo := pool [(1, .methodref 2 3), (0, .class_ 4), (0, .nameAndType 5 6), (0, u "java/util/ImmutableCollections$AbstractImmutableCollection"), (0, u "<init>"), (0, u "()V"), (1, .class_ 10), (1, u "java/util/ImmutableCollections"), (3, .class_ 16), (1, u "java/util/ImmutableCollections$AbstractImmutableList"), (60, .class_ 78), (0, u "java/util/List"), (45, .class_ 125), (0, u "java/util/RandomAccess")] 70

def k14c0 : Code := { maxStack := 1, maxLocals := 1, code := jdk_46_method_1_code, exceptionTable := #[], attributes := #[] }
def k14m0 : Method := { name := "<init>", desc := "()V", sig := { parameters := [], returnType := none }, accessFlags := 0, code := some k14c0 }
/-- java/util/ImmutableCollections$AbstractImmutableList -/
def k14 : Class := { plain "java/util/ImmutableCollections$AbstractImmutableList" (some 12) with
  accessFlags := 1056
  interfaces := #[10, 13]
  cf := some (fileOf pool14 14 #[.nestHost 8] #[{ accessFlags := 0, nameIndex := 5, descriptorIndex := 6, attributes := #[] }] 1056 2 #[77, 124] #[])
  fields := #[]
  methods := #[k14m0]
  instanceTypes := #[]
  staticTypes := #[]
  resolved := Array.replicate 196 none
  statics := none }

def pool15 : Array CpInfo := pool [(1, .methodref 2 3), (0, .class_ 4), (0, .nameAndType 5 6), (0, u "java/util/ImmutableCollections$AbstractImmutableList"), (0, u "<init>"), (0, u "()V"), (0, .methodref 8 9), (0, .class_ 10), (0, .nameAndType 11 12), (0, u "java/util/Objects"), (0, u "requireNonNull"), (0, u "(Ljava/lang/Object;)Ljava/lang/Object;"), (0, .fieldref 14 15), (0, .class_ 16), (0, .nameAndType 17 18), (0, u "java/util/ImmutableCollections$List12"), (0, u "e0"), (0, u "Ljava/lang/Object;"), (0, .fieldref 20 21), (0, .class_ 22), (0, .nameAndType 23 18), (0, u "java/util/ImmutableCollections"), (0, u "EMPTY"), (0, .fieldref 14 25), (0, .nameAndType 26 18), (0, u "e1"), (24, u "size"), (0, u "()I"), (17, .class_ 71), (0, u "java/io/Serializable"), (4, u "(Ljava/lang/Object;)V"), (13, u "get"), (0, u "(I)Ljava/lang/Object;")] 33

def k15c0 : Code := { maxStack := 2, maxLocals := 2, code := jdk_44_method_1_code, exceptionTable := #[], attributes := #[] }
def k15m0 : Method := { name := "<init>", desc := "(Ljava/lang/Object;)V", sig := { parameters := [(.object "java/lang/Object")], returnType := none }, accessFlags := 0, code := some k15c0 }
def k15c1 : Code := { maxStack := 2, maxLocals := 1, code := jdk_44_method_3_code, exceptionTable := #[], attributes := #[] }
def k15m1 : Method := { name := "size", desc := "()I", sig := { parameters := [], returnType := some .int }, accessFlags := 1, code := some k15c1 }
def k15c2 : Code := { maxStack := 2, maxLocals := 2, code := jdk_44_method_5_code, exceptionTable := #[], attributes := #[] }
def k15m2 : Method := { name := "get", desc := "(I)Ljava/lang/Object;", sig := { parameters := [.int], returnType := some (.object "java/lang/Object") }, accessFlags := 1, code := some k15c2 }
/-- java/util/ImmutableCollections$List12 -/
def k15 : Class := { plain "java/util/ImmutableCollections$List12" (some 14) with
  accessFlags := 48
  interfaces := #[4]
  cf := some (fileOf pool15 14 #[.nestHost 20] #[{ accessFlags := 0, nameIndex := 5, descriptorIndex := 76, attributes := #[] }, { accessFlags := 1, nameIndex := 51, descriptorIndex := 52, attributes := #[] }, { accessFlags := 1, nameIndex := 90, descriptorIndex := 91, attributes := #[] }] 48 2 #[70] #[{ accessFlags := 18, nameIndex := 17, descriptorIndex := 18, attributes := #[] }, { accessFlags := 18, nameIndex := 26, descriptorIndex := 18, attributes := #[] }])
  fields := #[{ name := "e0", type := (.object "java/lang/Object"), accessFlags := 18, slot := 0, constantValue := 0 }, { name := "e1", type := (.object "java/lang/Object"), accessFlags := 18, slot := 1, constantValue := 0 }]
  methods := #[k15m0, k15m1, k15m2]
  instanceTypes := #[(.object "java/lang/Object"), (.object "java/lang/Object")]
  staticTypes := #[]
  resolved := Array.replicate 125 none
  statics := none }

def pool16 : Array CpInfo := pool [(2, .class_ 4), (1, u "java/lang/Object"), (0, u "<init>"), (0, u "()V"), (3, .class_ 11), (0, u "java/util/ImmutableCollections$List12"), (0, .class_ 13), (0, u "java/util/ImmutableCollections$ListN"), (3, u "Z"), (29, .class_ 49), (1, u "java/util/ImmutableCollections"), (0, u "$assertionsDisabled"), (5, u "[Ljava/lang/Object;"), (5, u "EMPTY_LIST"), (0, u "Ljava/util/ImmutableCollections$ListN;"), (8, u "EMPTY_LIST_NULLS"), (22, u "SALT32L"), (0, u "J"), (2, u "REVERSE"), (6, u "archivedObjects"), (2, u "EMPTY"), (0, u "Ljava/lang/Object;"), (0, .class_ 112), (0, u "java/util/ImmutableCollections$SetN"), (5, u "EMPTY_SET"), (0, u "Ljava/util/ImmutableCollections$SetN;"), (0, .class_ 121), (0, u "java/util/ImmutableCollections$MapN"), (3, u "EMPTY_MAP"), (0, u "Ljava/util/ImmutableCollections$MapN;"), (4, u "EXPAND_FACTOR"), (0, u "I"), (36, .class_ 170), (0, u "java/util/ImmutableCollections$MapN$MapNIterator"), (0, .class_ 172), (0, u "java/util/ImmutableCollections$MapN$1"), (0, .class_ 174), (0, u "java/util/ImmutableCollections$Map1"), (0, .class_ 176), (0, u "java/util/ImmutableCollections$AbstractImmutableMap"), (0, .class_ 178), (0, u "java/util/ImmutableCollections$SetN$SetNIterator"), (0, .class_ 180), (0, u "java/util/ImmutableCollections$Set12"), (0, .class_ 182), (0, u "java/util/ImmutableCollections$Set12$1"), (0, .class_ 184), (0, u "java/util/ImmutableCollections$AbstractImmutableSet"), (0, .class_ 186), (0, u "java/util/ImmutableCollections$SubList"), (0, .class_ 188), (0, u "java/util/ImmutableCollections$ListItr"), (0, .class_ 190), (0, u "java/util/ImmutableCollections$AbstractImmutableList"), (0, .class_ 192), (0, u "java/util/ImmutableCollections$AbstractImmutableCollection"), (0, .class_ 194), (0, u "java/util/ImmutableCollections$Access"), (0, .class_ 196), (0, u "java/util/ImmutableCollections$Access$1")] 16

def k16m0 : Method := { name := "<init>", desc := "()V", sig := { parameters := [], returnType := none }, accessFlags := 2, code := none }
/-- java/util/ImmutableCollections -/
def k16 : Class := { plain "java/util/ImmutableCollections" (some 0) with
  accessFlags := 32
  interfaces := #[]
  cf := some (fileOf pool16 47 #[.nestMembers #[120, 169, 171, 173, 175, 111, 177, 179, 181, 183, 12, 10, 185, 187, 189, 191, 193, 195]] #[{ accessFlags := 2, nameIndex := 5, descriptorIndex := 6, attributes := #[] }] 32 2 #[] #[{ accessFlags := 26, nameIndex := 95, descriptorIndex := 96, attributes := #[] }, { accessFlags := 26, nameIndex := 99, descriptorIndex := 17, attributes := #[] }, { accessFlags := 10, nameIndex := 106, descriptorIndex := 56, attributes := #[] }, { accessFlags := 26, nameIndex := 109, descriptorIndex := 110, attributes := #[] }, { accessFlags := 24, nameIndex := 62, descriptorIndex := 63, attributes := #[] }, { accessFlags := 24, nameIndex := 72, descriptorIndex := 63, attributes := #[] }, { accessFlags := 24, nameIndex := 118, descriptorIndex := 119, attributes := #[] }, { accessFlags := 24, nameIndex := 125, descriptorIndex := 126, attributes := #[] }, { accessFlags := 24, nameIndex := 131, descriptorIndex := 132, attributes := #[] }, { accessFlags := 4120, nameIndex := 50, descriptorIndex := 17, attributes := #[] }])
  fields := #[{ name := "SALT32L", type := .long, accessFlags := 26, slot := 0, constantValue := 0 }, { name := "REVERSE", type := .boolean, accessFlags := 26, slot := 1, constantValue := 0 }, { name := "archivedObjects", type := (.array (.object "java/lang/Object")), accessFlags := 10, slot := 2, constantValue := 0 }, { name := "EMPTY", type := (.object "java/lang/Object"), accessFlags := 26, slot := 3, constantValue := 0 }, { name := "EMPTY_LIST", type := (.object "java/util/ImmutableCollections$ListN"), accessFlags := 24, slot := 4, constantValue := 0 }, { name := "EMPTY_LIST_NULLS", type := (.object "java/util/ImmutableCollections$ListN"), accessFlags := 24, slot := 5, constantValue := 0 }, { name := "EMPTY_SET", type := (.object "java/util/ImmutableCollections$SetN"), accessFlags := 24, slot := 6, constantValue := 0 }, { name := "EMPTY_MAP", type := (.object "java/util/ImmutableCollections$MapN"), accessFlags := 24, slot := 7, constantValue := 0 }, { name := "EXPAND_FACTOR", type := .int, accessFlags := 24, slot := 8, constantValue := 0 }, { name := "$assertionsDisabled", type := .boolean, accessFlags := 4120, slot := 9, constantValue := 0 }]
  methods := #[k16m0]
  instanceTypes := #[]
  staticTypes := #[.long, .boolean, (.array (.object "java/lang/Object")), (.object "java/lang/Object"), (.object "java/util/ImmutableCollections$ListN"), (.object "java/util/ImmutableCollections$ListN"), (.object "java/util/ImmutableCollections$SetN"), (.object "java/util/ImmutableCollections$MapN"), .int, .boolean]
  resolved := Array.replicate 213 none
  statics := some 1 }

def pool17 : Array CpInfo := pool [(2, .class_ 4), (1, u "java/lang/Object"), (0, u "<init>"), (0, u "()V"), (35, .class_ 44), (1, u "java/util/Objects"), (0, u "requireNonNull"), (0, u "(Ljava/lang/Object;)Ljava/lang/Object;")] 137

def k17m0 : Method := { name := "<init>", desc := "()V", sig := { parameters := [], returnType := none }, accessFlags := 2, code := none }
def k17c1 : Code := { maxStack := 2, maxLocals := 1, code := jdk_31_method_10_code, exceptionTable := #[], attributes := #[] }
def k17m1 : Method := { name := "requireNonNull", desc := "(Ljava/lang/Object;)Ljava/lang/Object;", sig := { parameters := [(.object "java/lang/Object")], returnType := some (.object "java/lang/Object") }, accessFlags := 9, code := some k17c1 }
/-- java/util/Objects -/
def k17 : Class := { plain "java/util/Objects" (some 0) with
  accessFlags := 49
  interfaces := #[]
  cf := some (fileOf pool17 42 #[] #[{ accessFlags := 2, nameIndex := 5, descriptorIndex := 6, attributes := #[] }, { accessFlags := 9, nameIndex := 45, descriptorIndex := 46, attributes := #[] }] 49 2 #[] #[])
  fields := #[]
  methods := #[k17m0, k17m1]
  instanceTypes := #[]
  staticTypes := #[]
  resolved := Array.replicate 184 none
  statics := none }

def pool18 : Array CpInfo := pool [(2, .class_ 4), (1, u "java/util/ImmutableCollections$AbstractImmutableList"), (3, .class_ 10), (1, u "java/util/ImmutableCollections$ListN"), (0, u "elements"), (0, u "[Ljava/lang/Object;"), (2, u "allowNulls"), (0, u "Z"), (42, .class_ 60), (0, u "java/io/Serializable"), (53, .class_ 115), (0, u "java/util/ImmutableCollections")] 3

/-- java/util/ImmutableCollections$ListN -/
def k18 : Class := { plain "java/util/ImmutableCollections$ListN" (some 14) with
  accessFlags := 48
  interfaces := #[4]
  cf := some (fileOf pool18 8 #[.nestHost 114] #[] 48 2 #[59] #[{ accessFlags := 18, nameIndex := 11, descriptorIndex := 12, attributes := #[] }, { accessFlags := 18, nameIndex := 15, descriptorIndex := 16, attributes := #[] }])
  fields := #[{ name := "elements", type := (.array (.object "java/lang/Object")), accessFlags := 18, slot := 0, constantValue := 0 }, { name := "allowNulls", type := .boolean, accessFlags := 18, slot := 1, constantValue := 0 }]
  methods := #[]
  instanceTypes := #[(.array (.object "java/lang/Object")), .boolean]
  staticTypes := #[]
  resolved := Array.replicate 119 none
  statics := none }

def pool19 : Array CpInfo := pool [(1, u "java/lang/Cloneable"), (0, .class_ 1), (0, u "java/lang/Object"), (0, .class_ 3)] 3

/-- java/lang/Cloneable -/
def k19 : Class := { plain "java/lang/Cloneable" (some 0) with
  accessFlags := 1537
  interfaces := #[]
  cf := some (fileOf pool19 2 #[] #[] 1537 4 #[] #[])
  fields := #[]
  methods := #[]
  instanceTypes := #[]
  staticTypes := #[]
  resolved := Array.replicate 8 none
  statics := none }

/-- the primitive byte -/
def k20 : Class := { plain "byte" none with kind := .primitive 'B', accessFlags := 0x411 }
/-- [B -/
def k21 : Class := { plain "[B" (some 0) with kind := .array 20 .byte, interfaces := #[19, 4], accessFlags := 1041 }

/-- the primitive int -/
def k22 : Class := { plain "int" none with kind := .primitive 'I', accessFlags := 0x411 }
/-- [I -/
def k23 : Class := { plain "[I" (some 0) with kind := .array 22 .int, interfaces := #[19, 4], accessFlags := 1041 }

def heap : Heap := #[{ cls := 6, slots := #[.ref 2, .ref 3, .ref 4, .ref 5, .null], vm := .statics 6 },
  { cls := 16, slots := #[.long 0, .int 0, .null, .ref 6, .ref 7, .null, .null, .null, .int 0, .int 1], vm := .statics 16 },
  { cls := 6, slots := #[.null, .int 0, .int 0], vm := .none },
  { cls := 6, slots := #[.null, .int 1, .int 0], vm := .none },
  { cls := 6, slots := #[.null, .int 2, .int 0], vm := .none },
  { cls := 15, slots := #[.ref 3, .ref 4], vm := .none },
  { cls := 0, slots := #[], vm := .none },
  { cls := 18, slots := #[.null, .int 0], vm := .none }]
def classes : Array Class := #[k0, k1, k2, k3, k4, k5, k6, k7, k8, k9, k10, k11, k12, k13, k14, k15, k16, k17, k18, k19, k20, k21, k22, k23]
def interned : List (Array UInt16 × Addr) := []
def slotsUsed : Nat := 28
def theMethod : MethodId := ⟨1, 2⟩
def args0 : Array Value := #[.int 5, .int 1]
def aboutOver (below : List Frame) : State where
  vm := { classes := classes, interned := interned.toArray }
  heap := heap
  slotsUsed := slotsUsed
  threads := #[{ frames := .invoking theMethod args0 :: below }]
def below0 : List Frame := [.native { method := ⟨0, 0⟩, args := #[] }]
def about1 : State := aboutOver below0
def p0 : Program := .bare "" "" ""
def e0 : Env := launch0.env 0 0 0
theorem w_frames : about1.frames = Frame.invoking theMethod args0 :: below0 := rfl
set_option maxRecDepth 65536 in
theorem w_args : argsFit about1.vm theMethod args0 = true := by decide +kernel
set_option maxRecDepth 65536 in
theorem w_heap : heapFits about1 = true := by decide +kernel
set_option maxRecDepth 65536 in
theorem w_runnable : about1.curStatus? = some .runnable := by decide +kernel
set_option maxRecDepth 65536 in
theorem w_alone : about1.alone = true := by decide +kernel
set_option maxRecDepth 65536 in
theorem w_named : about1.methodNamed? x = some theMethod := by decide +kernel
set_option maxRecDepth 65536 in
theorem w_hears : about1.hears theMethod below0 = true := by decide +kernel
set_option maxRecDepth 65536 in
theorem w_ripe : about1.ripe theMethod args0 below0 = true := by decide +kernel
theorem w_running : about1.status = .running := rfl
set_option maxRecDepth 65536 in
theorem w_room : about1.hasRoom e0.platform room_1 = true :=
  launch0.hasRoom_least _ room_1 (by decide +kernel) (by decide +kernel) (by decide +kernel) (by decide +kernel) (by decide +kernel) (by decide +kernel)
theorem allAtoms_all (ts : List Jvm.Cond) (a : Array Jvm.Value) (st : Jvm.State) : (allAtoms ts).before a st = ts.all (fun c => c.before a st) := by
  induction ts with
  | nil => rfl
  | cons c t ih =>
    show (Jvm.Cond.and c (allAtoms t)).before a st = _
    rw [Jvm.Cond.before_and, ih, List.all_cons]
def words1 : List Jvm.Cond := Jvm.Cond.code x code maxLocals ret :: tables_1
/-- a 'code' word, met by the world's own term for the bytes: nothing is compared byte by byte -/
theorem code_word {y : MethodName} {bytes : ByteArray} {mx : Nat} {rt : Option FieldType} {a : Array Value} {s : State} {m : MethodId} {meth : Method} {c : Code} (h1 : s.methodNamed? y = some m) (h2 : s.vm.method? m = some meth) (h3 : meth.code = some c) (h4 : c.code = bytes)
    (h5 : (c.maxLocals == mx && c.exceptionTable.isEmpty && decide (c.maxStack ≤ mostOperands) && decide (meth.sig.returnType = rt) && !meth.locks && decide (parseMethodDescriptor y.desc = some meth.sig)) = true) : (Jvm.Cond.code y bytes mx rt).before a s = true := by
  simp only [Bool.and_eq_true, beq_iff_eq, Bool.not_eq_true', decide_eq_true_eq] at h5
  obtain ⟨⟨⟨⟨⟨g1, g2⟩, g3⟩, g4⟩, g5⟩, g6⟩ := h5
  simp [Cond.before, Cond.holds, Cond.value, h1, h2, h3, h4, g1, g2, g3, g4, g5, g6]
def isCode : Jvm.Cond → Bool
  | .code _ _ _ _ => true
  | _ => false
theorem all_split {L : List Jvm.Cond} {P : Jvm.Cond → Bool} (h1 : L.all (fun c => isCode c || P c) = true) (h2 : ∀ c ∈ L.filter isCode, P c = true) : L.all P = true := by
  refine List.all_eq_true.mpr fun c hc => ?_
  have h := List.all_eq_true.mp h1 c hc
  rcases Bool.eq_false_or_eq_true (isCode c) with hi | hi
  · exact h2 c (List.mem_filter.mpr ⟨hc, hi⟩)
  · simpa [hi] using h
set_option maxRecDepth 65536 in
theorem w_c0 : (Jvm.Cond.code x code maxLocals ret).before args0 about1 = true := code_word (m := ⟨1, 2⟩) (meth := k1m2) (c := k1c2) (by decide +kernel) rfl rfl rfl (by decide +kernel)
set_option maxRecDepth 65536 in
theorem w_c1 : (Jvm.Cond.code ({ cls := "com/example/backfill/backfill/engine/LaneEndpointsPinLaw", name := "pick", desc := "(I)Lcom/example/backfill/backfill/engine/Lane;" } : Jvm.MethodName) method_2_code (2 : Nat) (Option.some (Jvm.ClassFile.FieldType.object "com/example/backfill/backfill/engine/Lane"))).before args0 about1 = true := code_word (m := ⟨1, 1⟩) (meth := k1m1) (c := k1c1) (by decide +kernel) rfl rfl rfl (by decide +kernel)
set_option maxRecDepth 65536 in
theorem w_c2 : (Jvm.Cond.code ({ cls := "com/example/backfill/backfill/engine/Lane", name := "endpoints", desc := "()Ljava/util/List;" } : Jvm.MethodName) prog_19_method_8_code (1 : Nat) (Option.some (Jvm.ClassFile.FieldType.object "java/util/List"))).before args0 about1 = true := code_word (m := ⟨6, 0⟩) (meth := k6m0) (c := k6c0) (by decide +kernel) rfl rfl rfl (by decide +kernel)
set_option maxRecDepth 65536 in
theorem w_c3 : (Jvm.Cond.code ({ cls := "java/util/ImmutableCollections$List12", name := "size", desc := "()I" } : Jvm.MethodName) jdk_44_method_3_code (1 : Nat) (Option.some Jvm.ClassFile.FieldType.int)).before args0 about1 = true := code_word (m := ⟨15, 1⟩) (meth := k15m1) (c := k15c1) (by decide +kernel) rfl rfl rfl (by decide +kernel)
set_option maxRecDepth 65536 in
theorem w_c4 : (Jvm.Cond.code ({ cls := "java/util/ImmutableCollections$List12", name := "get", desc := "(I)Ljava/lang/Object;" } : Jvm.MethodName) jdk_44_method_5_code (2 : Nat) (Option.some (Jvm.ClassFile.FieldType.object "java/lang/Object"))).before args0 about1 = true := code_word (m := ⟨15, 2⟩) (meth := k15m2) (c := k15c2) (by decide +kernel) rfl rfl rfl (by decide +kernel)
set_option maxRecDepth 65536 in
theorem w_c5 : (Jvm.Cond.code ({ cls := "java/util/List", name := "of", desc := "(Ljava/lang/Object;)Ljava/util/List;" } : Jvm.MethodName) jdk_40_method_37_code (1 : Nat) (Option.some (Jvm.ClassFile.FieldType.object "java/util/List"))).before args0 about1 = true := code_word (m := ⟨10, 2⟩) (meth := k10m2) (c := k10c2) (by decide +kernel) rfl rfl rfl (by decide +kernel)
set_option maxRecDepth 65536 in
theorem w_c6 : (Jvm.Cond.code ({ cls := "java/util/ImmutableCollections$List12", name := "<init>", desc := "(Ljava/lang/Object;)V" } : Jvm.MethodName) jdk_44_method_1_code (2 : Nat) (Option.none : Option Jvm.ClassFile.FieldType)).before args0 about1 = true := code_word (m := ⟨15, 0⟩) (meth := k15m0) (c := k15c0) (by decide +kernel) rfl rfl rfl (by decide +kernel)
set_option maxRecDepth 65536 in
theorem w_c7 : (Jvm.Cond.code ({ cls := "java/util/ImmutableCollections$AbstractImmutableList", name := "<init>", desc := "()V" } : Jvm.MethodName) jdk_46_method_1_code (1 : Nat) (Option.none : Option Jvm.ClassFile.FieldType)).before args0 about1 = true := code_word (m := ⟨14, 0⟩) (meth := k14m0) (c := k14c0) (by decide +kernel) rfl rfl rfl (by decide +kernel)
set_option maxRecDepth 65536 in
theorem w_c8 : (Jvm.Cond.code ({ cls := "java/util/ImmutableCollections$AbstractImmutableCollection", name := "<init>", desc := "()V" } : Jvm.MethodName) jdk_47_method_1_code (1 : Nat) (Option.none : Option Jvm.ClassFile.FieldType)).before args0 about1 = true := code_word (m := ⟨12, 0⟩) (meth := k12m0) (c := k12c0) (by decide +kernel) rfl rfl rfl (by decide +kernel)
set_option maxRecDepth 65536 in
theorem w_c9 : (Jvm.Cond.code ({ cls := "java/util/AbstractCollection", name := "<init>", desc := "()V" } : Jvm.MethodName) jdk_22_method_1_code (1 : Nat) (Option.none : Option Jvm.ClassFile.FieldType)).before args0 about1 = true := code_word (m := ⟨11, 0⟩) (meth := k11m0) (c := k11c0) (by decide +kernel) rfl rfl rfl (by decide +kernel)
set_option maxRecDepth 65536 in
theorem w_c10 : (Jvm.Cond.code ({ cls := "java/lang/Object", name := "<init>", desc := "()V" } : Jvm.MethodName) object_method_1_code (1 : Nat) (Option.none : Option Jvm.ClassFile.FieldType)).before args0 about1 = true := code_word (m := ⟨0, 0⟩) (meth := k0m0) (c := k0c0) (by decide +kernel) rfl rfl rfl (by decide +kernel)
set_option maxRecDepth 65536 in
theorem w_c11 : (Jvm.Cond.code ({ cls := "java/util/Objects", name := "requireNonNull", desc := "(Ljava/lang/Object;)Ljava/lang/Object;" } : Jvm.MethodName) jdk_31_method_10_code (1 : Nat) (Option.some (Jvm.ClassFile.FieldType.object "java/lang/Object"))).before args0 about1 = true := code_word (m := ⟨17, 1⟩) (meth := k17m1) (c := k17c1) (by decide +kernel) rfl rfl rfl (by decide +kernel)
def codes1 : List Jvm.Cond := [Jvm.Cond.code x code maxLocals ret, Jvm.Cond.code ({ cls := "com/example/backfill/backfill/engine/LaneEndpointsPinLaw", name := "pick", desc := "(I)Lcom/example/backfill/backfill/engine/Lane;" } : Jvm.MethodName) method_2_code (2 : Nat) (Option.some (Jvm.ClassFile.FieldType.object "com/example/backfill/backfill/engine/Lane")), Jvm.Cond.code ({ cls := "com/example/backfill/backfill/engine/Lane", name := "endpoints", desc := "()Ljava/util/List;" } : Jvm.MethodName) prog_19_method_8_code (1 : Nat) (Option.some (Jvm.ClassFile.FieldType.object "java/util/List")), Jvm.Cond.code ({ cls := "java/util/ImmutableCollections$List12", name := "size", desc := "()I" } : Jvm.MethodName) jdk_44_method_3_code (1 : Nat) (Option.some Jvm.ClassFile.FieldType.int), Jvm.Cond.code ({ cls := "java/util/ImmutableCollections$List12", name := "get", desc := "(I)Ljava/lang/Object;" } : Jvm.MethodName) jdk_44_method_5_code (2 : Nat) (Option.some (Jvm.ClassFile.FieldType.object "java/lang/Object")), Jvm.Cond.code ({ cls := "java/util/List", name := "of", desc := "(Ljava/lang/Object;)Ljava/util/List;" } : Jvm.MethodName) jdk_40_method_37_code (1 : Nat) (Option.some (Jvm.ClassFile.FieldType.object "java/util/List")), Jvm.Cond.code ({ cls := "java/util/ImmutableCollections$List12", name := "<init>", desc := "(Ljava/lang/Object;)V" } : Jvm.MethodName) jdk_44_method_1_code (2 : Nat) (Option.none : Option Jvm.ClassFile.FieldType), Jvm.Cond.code ({ cls := "java/util/ImmutableCollections$AbstractImmutableList", name := "<init>", desc := "()V" } : Jvm.MethodName) jdk_46_method_1_code (1 : Nat) (Option.none : Option Jvm.ClassFile.FieldType), Jvm.Cond.code ({ cls := "java/util/ImmutableCollections$AbstractImmutableCollection", name := "<init>", desc := "()V" } : Jvm.MethodName) jdk_47_method_1_code (1 : Nat) (Option.none : Option Jvm.ClassFile.FieldType), Jvm.Cond.code ({ cls := "java/util/AbstractCollection", name := "<init>", desc := "()V" } : Jvm.MethodName) jdk_22_method_1_code (1 : Nat) (Option.none : Option Jvm.ClassFile.FieldType), Jvm.Cond.code ({ cls := "java/lang/Object", name := "<init>", desc := "()V" } : Jvm.MethodName) object_method_1_code (1 : Nat) (Option.none : Option Jvm.ClassFile.FieldType), Jvm.Cond.code ({ cls := "java/util/Objects", name := "requireNonNull", desc := "(Ljava/lang/Object;)Ljava/lang/Object;" } : Jvm.MethodName) jdk_31_method_10_code (1 : Nat) (Option.some (Jvm.ClassFile.FieldType.object "java/lang/Object"))]
set_option maxRecDepth 65536 in
theorem codes_eq : words1.filter isCode = codes1 := rfl
theorem w_codes : ∀ c ∈ words1.filter isCode, c.before args0 about1 = true := by
  rw [codes_eq]
  intro c hc
  simp only [codes1, List.mem_cons, List.not_mem_nil, or_false] at hc
  rcases hc with rfl | rfl | rfl | rfl | rfl | rfl | rfl | rfl | rfl | rfl | rfl | rfl
  · exact w_c0
  · exact w_c1
  · exact w_c2
  · exact w_c3
  · exact w_c4
  · exact w_c5
  · exact w_c6
  · exact w_c7
  · exact w_c8
  · exact w_c9
  · exact w_c10
  · exact w_c11
set_option maxRecDepth 65536 in
theorem w_t1 : (words1.take 24).all (fun c => isCode c || c.before args0 about1) = true := by decide +kernel
set_option maxRecDepth 65536 in
theorem w_t2 : ((words1.drop 24).take 24).all (fun c => isCode c || c.before args0 about1) = true := by decide +kernel
set_option maxRecDepth 65536 in
theorem w_t3 : (((words1.drop 24).drop 24).take 24).all (fun c => isCode c || c.before args0 about1) = true := by decide +kernel
set_option maxRecDepth 65536 in
theorem w_t4 : (((words1.drop 24).drop 24).drop 24).all (fun c => isCode c || c.before args0 about1) = true := by decide +kernel
theorem w_tables : (allAtoms (Jvm.Cond.code x code maxLocals ret :: tables_1)).before args0 about1 = true := by
  rw [allAtoms_all]
  show words1.all (fun c => c.before args0 about1) = true
  refine all_split ?_ w_codes
  rw [← List.take_append_drop 24 words1, List.all_append, w_t1, ← List.take_append_drop 24 (words1.drop 24), List.all_append, w_t2, ← List.take_append_drop 24 ((words1.drop 24).drop 24), List.all_append, w_t3, w_t4]
  rfl
set_option maxRecDepth 65536 in
theorem w_rest : rest_1_c.before args0 about1 = true := by decide +kernel
set_option maxRecDepth 65536 in
theorem w_case : (Jvm.Cond.and given_1 narrow_1).before args0 about1 = true := by decide +kernel
theorem w_applies : (headSpec (Jvm.Cond.code x code maxLocals ret :: tables_1) room_1).applies x e0.platform about1 = true :=
  (Spec.applies_iff w_frames).mpr ⟨w_running, w_runnable, w_alone, w_named, w_hears, w_ripe, w_room, w_tables⟩
theorem atStart : AtStart classFile x code maxLocals ret World_1 tables_1 room_1 Calls_1 rest_1 Pre_1 launch0 p0 e0 about1 theMethod args0 below0 :=
  ⟨lists_1, trivial, launch0.admits_env _ _ _, launch0.least_env, fairChoices_fair.cas, fairChoices_fair.clock, w_frames, w_args, w_heap, w_applies, trivial, w_rest, w_case⟩
end start1
theorem witness_1 : WitnessClaimed_1 := ⟨start1.p0, start1.e0, start1.about1, start1.theMethod, start1.args0, start1.below0, start1.atStart⟩
end Jvm.Pilot.@@N@@
